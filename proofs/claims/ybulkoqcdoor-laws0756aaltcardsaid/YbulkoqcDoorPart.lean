import Derived.Test.YbulkoqcDoorAdd
namespace Go.Proofs.YbulkoqcDoor
open Go.RowKit
set_option linter.unusedVariables false

theorem Ybad.info5 : (Ybad.prog.info? 5).map (fun i => (i.zero, i.size, i.bytes)) = some (some (.int .u8 0), 1, 1) := by kernel_rfl

/-- A row of n bytes, of which the first k are set. -/
def rowTo (z : Nat → Nat) (n k : Nat) : List Value := (List.range n).map fun i => .int .u8 ((if i < k then z i else 0 : Nat) : Int)

theorem rowTo_len (z : Nat → Nat) (n k : Nat) : (rowTo z n k).length = n := by simp [rowTo]
theorem rowTo_at (z : Nat → Nat) (n k i : Nat) (h : i < n) : (rowTo z n k)[i]? = some (.int .u8 ((if i < k then z i else 0 : Nat) : Int)) := by
  simp [rowTo, h]
theorem rowTo_zero (z : Nat → Nat) (n : Nat) : rowTo z n 0 = List.replicate n (.int .u8 0) := by
  apply List.ext_getElem?
  intro i
  rcases Nat.lt_or_ge i n with h | h
  · rw [rowTo_at z n 0 i h, List.getElem?_replicate, if_pos h, if_neg (by omega)]; rfl
  · rw [List.getElem?_eq_none (by rw [rowTo_len]; exact h), List.getElem?_eq_none (by simpa using h)]
theorem rowTo_set (z : Nat → Nat) (n k : Nat) (h : k < n) : ((rowTo z n k).toArray.setIfInBounds k (.int .u8 (z k))) = (rowTo z n (k + 1)).toArray := by
  apply Array.ext_getElem?
  intro i
  rw [Array.getElem?_setIfInBounds]
  by_cases hik : k = i
  · subst hik
    rw [if_pos rfl, if_pos (by simpa [rowTo_len] using h)]
    simp only [List.getElem?_toArray]
    rw [rowTo_at z n (k + 1) k h, if_pos (by omega)]
  · rw [if_neg hik]
    simp only [List.getElem?_toArray]
    rcases Nat.lt_or_ge i n with h' | h'
    · rw [rowTo_at z n k i h', rowTo_at z n (k + 1) i h']
      have : (i < k) ↔ (i < k + 1) := by omega
      simp only [this]
    · rw [List.getElem?_eq_none (by rw [rowTo_len]; exact h'), List.getElem?_eq_none (by rw [rowTo_len]; exact h')]

/-- A row of bytes lies in block g. -/
def IsRow8 (w : World) (g : Nat) (z : Nat → Nat) (n k : Nat) : Prop := w.heap[g]? = some (.cells (rowTo z n k).toArray 5 (0, 0))
theorem IsRow8.cell {w : World} {g n k : Nat} {z : Nat → Nat} (h : IsRow8 w g z n k) (i : Nat) (hi : i < n) : w.cell? ⟨g, i, none⟩ = some (.int .u8 ((if i < k then z i else 0 : Nat) : Int)) := by
  rw [cell_of_row w g i _ _ _ h]
  simpa using rowTo_at z n k i hi
theorem IsRow8.frozen {w : World} {g n k : Nat} {z : Nat → Nat} (h : IsRow8 w g z n k) (i : Nat) : w.frozen? ⟨g, i, none⟩ = false := by
  unfold IsRow8 at h
  simp only [World.frozen?, h]; simp
theorem IsRow8.lt {w : World} {g n k : Nat} {z : Nat → Nat} (h : IsRow8 w g z n k) : g < w.heap.size := lt_of_block h
theorem IsRow8.put {w : World} {g n k : Nat} {z : Nat → Nat} (h : IsRow8 w g z n k) (hk : k < n) : IsRow8 (w.setCell ⟨g, k, none⟩ (.int .u8 (z k))) g z n (k + 1) := by
  unfold IsRow8
  rw [heap_setCell_at h, rowTo_set z n k hk]
theorem IsRow8.other {w : World} {g n k : Nat} {z : Nat → Nat} (h : IsRow8 w g z n k) {b o : Nat} (hb : g ≠ b) (v : Value) : IsRow8 (w.setCell ⟨b, o, none⟩ v) g z n k := by
  unfold IsRow8
  rw [Below.heap_setCell _ _ _ _ (by show g ≠ b; exact hb)]
  exact h
theorem IsRow8.block {w w' : World} {g n k : Nat} {z : Nat → Nat} (h : IsRow8 w g z n k) (e : w'.heap[g]? = w.heap[g]?) : IsRow8 w' g z n k := e.trans h

theorem own_block {w : World} {base g n : Nat} {e : TypeId} {xs : List Value} (h : w.ownsRow base e 1 (.slice (some ⟨g, 0, none⟩) n n) n xs) : w.heap[g]? = some (.cells xs.toArray e (0, 0)) := by
  rcases h.2 with ⟨h, _⟩ | ⟨g', cap, cur, h', _, hh, h1, h2, h3, h4⟩
  · cases h
  · simp at h'
    obtain ⟨rfl, rfl⟩ := h'
    rw [List.take_of_length_le (by simp [h3])] at h4
    rw [hh, ← h4]

/-- The bytes of a part, from its uint16s. -/
def pv (z : Nat → Nat) (j : Nat) : Nat := (z j % 256) &&& (z j / 256)
def pm (z : Nat → Nat) (j : Nat) : Nat := z j / 256

set_option maxRecDepth 100000 in
set_option maxHeartbeats 1000000 in
theorem part_any (ao : Option Addr) (b0 o0 n cap : Nat) (z : Nat → Nat) (w : World) (hn : n ≤ 256) (hz : ∀ j, z j < 65536)
    (h0 : 0 < n → ao = some ⟨b0, o0, none⟩ ∧ b0 < w.heap.size) (hcell : ∀ j, j < n → w.cell? ⟨b0, o0 + j, none⟩ = some (.int .u16 (z j))) :
    Calls Ybad.prog 6 #[.slice ao n cap] w fun e w' => ∃ gv gm, e = .returned (.agg #[.slice (some ⟨gv, 0, none⟩) n n, .slice (some ⟨gm, 0, none⟩) n n, .slice none 0 0]) ∧ w.heap.size ≤ gv ∧ w.heap.size ≤ gm ∧ gv ≠ gm ∧ IsRow8 w' gv (pv z) n n ∧ IsRow8 w' gm (pm z) n n ∧ Below w.heap.size w w' := by
  obtain ⟨i5, hi5, hz0, hz1, hz2⟩ := info_parts Ybad.info5
  have H0 : Hid ((0 < n → ao = some ⟨b0, o0, none⟩ ∧ b0 < w.heap.size) ∧ ∀ j, j < n → w.cell? ⟨b0, o0 + j, none⟩ = some (.int .u16 (z j))) := ⟨h0, hcell⟩
  have HZ : Hid (∀ j, z j < 65536) := hz
  clear h0 hcell hz
  go_enter Ybad.func6, Ybad.ntmps6
  go_wp2_with (at_make; refine wpList_make_full _ rfl _ _ 23 rfl (w.heap.size + 1) 5 i5 (.int .u8 0) 1 Ybad.underlying23 hi5 hz0 hz1 _ _ _ _ n rfl rfl rfl rfl ?m1 ?m2 ?m3 ?_)
  case m1 => rw [hz2]; omega
  case m2 => unfold maxLen; omega
  case m3 => simp
  intro w1 hown1 hgrow1
  have G1 : Hid (IsRow8 w1 (w.heap.size + 1) (pv z) n 0) := by
    have := own_block hown1
    unfold IsRow8
    show _ = _
    rw [rowTo_zero, this, toList_madeCells_one]
  have R1 : Hid (w1.heap[w.heap.size]? = some (.cells #[.slice none 0 0, .slice none 0 0, .slice none 0 0] 31 (0, 0))) := by
    have := hgrow1.block w.heap.size (by simp) (by simp)
    exact this.trans (heap_alloc_new w _)
  have B1 : Hid (Below w.heap.size w w1) := ((Below.refl _ _).alloc (Nat.le_refl _) _).grown hgrow1 (by simp) (fun k h => by cases h)
  have hs1 : w.heap.size + 1 < w1.heap.size := G1.out.lt
  clear hown1 hgrow1
  go_wp2_with (at_make; refine wpList_make_full _ rfl _ _ 23 rfl w1.heap.size 5 i5 (.int .u8 0) 1 Ybad.underlying23 hi5 hz0 hz1 _ _ _ _ n rfl rfl rfl rfl ?m1 ?m2 (Nat.le_refl _) ?_)
  case m1 => rw [hz2]; omega
  case m2 => unfold maxLen; omega
  intro w2 hown2 hgrow2
  have G2 : Hid (IsRow8 w2 w1.heap.size (pm z) n 0) := by
    have := own_block hown2
    unfold IsRow8
    show _ = _
    rw [rowTo_zero, this, toList_madeCells_one]
  have G1' : Hid (IsRow8 w2 (w.heap.size + 1) (pv z) n 0) := G1.out.block (hgrow2.block _ (by omega) (by simp))
  have R2 : Hid (w2.heap[w.heap.size]? = some (.cells #[.slice none 0 0, .slice none 0 0, .slice none 0 0] 31 (0, 0))) := (hgrow2.block _ (by omega) (by simp)).trans R1.out
  have B2 : Hid (Below w.heap.size w w2) := B1.out.grown hgrow2 (by omega) (fun k h => by cases h)
  clear hown2 hgrow2 G1 R1 B1
  go_wp2_with fail
  go_loopw [5] (fun i wr => ∃ k : Nat, k ≤ n ∧ i = .int .i64 k ∧ IsRow8 wr (w.heap.size + 1) (pv z) n k ∧ IsRow8 wr w1.heap.size (pm z) n k ∧ wr.heap[w.heap.size]? = some (.cells #[.slice none 0 0, .slice none 0 0, .slice none 0 0] 31 (0, 0)) ∧ Below w.heap.size w wr) (fun i _ => n - (intOf i).toNat)
  case atStart => exact ⟨0, Nat.zero_le _, rfl, G1'.out, G2.out, R2.out, B2.out⟩
  case round =>
    obtain ⟨k, hk, rfl, r1, r2, r3, r4⟩ := hrel
    have HR : Hid (IsRow8 wr (w.heap.size + 1) (pv z) n k ∧ IsRow8 wr w1.heap.size (pm z) n k ∧ wr.heap[w.heap.size]? = some (.cells #[.slice none 0 0, .slice none 0 0, .slice none 0 0] 31 (0, 0)) ∧ Below w.heap.size w wr) := ⟨r1, r2, r3, r4⟩
    clear r1 r2 r3 r4
    by_cases hkn : k < n
    · obtain ⟨hx, hltb⟩ := H0.out.1 (by omega)
      subst hx
      have q0 : wr.cell? ⟨b0, o0 + k, none⟩ = some (.int .u16 (z k)) := (HR.out.2.2.2.cell (p := ⟨b0, o0 + k, none⟩) hltb).trans (H0.out.2 k hkn)
      have c1 := HR.out.1.cell k hkn
      have f1 := HR.out.1.frozen k
      have c2 := HR.out.2.1.cell k hkn
      have f2 := HR.out.2.1.frozen k
      have hzk := HZ.out k
      obtain ⟨x, hx⟩ : ∃ x, z k = x := ⟨_, rfl⟩
      rw [hx] at q0 hzk
      have HX : Hid (z k = x) := hx
      clear hx
      have b1 : (0 : Int) ≤ (k : Int) := by omega
      have b2 : (k : Int) < (n : Int) := by omega
      go_wp2
      obtain ⟨r1, r2, r3, r4⟩ := HR.out
      go_roundw
      case rel =>
        have e1 : bits .and .u8 ((x : Int) % 256) ((x : Int) / 256) = ((pv z k : Nat) : Int) := by
          have := u8_and_nat (x % 256) (x / 256) (by omega) (by omega)
          rw [show (((x % 256 : Nat)) : Int) = (x : Int) % 256 from by omega, show (((x / 256 : Nat)) : Int) = (x : Int) / 256 from by omega] at this
          rw [this, pv, HX.out]
        have e2 : (x : Int) / 256 = ((pm z k : Nat) : Int) := by rw [pm, HX.out]; omega
        refine ⟨k + 1, by omega, by go_num, ?_, ?_, ?_, ?_⟩
        · rw [e1, e2]
          exact (r1.put hkn).other (by omega) _
        · rw [e1, e2]
          exact (r2.other (by omega) _).put hkn
        · rw [Below.heap_setCell _ _ _ _ (by show _ ≠ _; simp; omega), Below.heap_setCell _ _ _ _ (by show _ ≠ _; simp)]
          exact r3
        · exact (r4.setCell (by show _ ≤ _; simp) _).setCell (by show _ ≤ _; simp; omega) _
      case measure => simp [intOf]; omega
    · have hkn' : k = n := by omega
      subst hkn'
      have c0 : wr.cell? ⟨w.heap.size, 0, none⟩ = some (.slice none 0 0) := by rw [cell_of_row wr _ _ _ _ _ HR.out.2.2.1]; rfl
      have c1 : wr.cell? ⟨w.heap.size, 1, none⟩ = some (.slice none 0 0) := by rw [cell_of_row wr _ _ _ _ _ HR.out.2.2.1]; rfl
      have c2 : wr.cell? ⟨w.heap.size, 2, none⟩ = some (.slice none 0 0) := by rw [cell_of_row wr _ _ _ _ _ HR.out.2.2.1]; rfl
      have f0 : wr.frozen? ⟨w.heap.size, 0, none⟩ = false := by have h := HR.out.2.2.1; simp only [World.frozen?, h]; simp
      have f1 : wr.frozen? ⟨w.heap.size, 1, none⟩ = false := by have h := HR.out.2.2.1; simp only [World.frozen?, h]; simp
      have f2 : wr.frozen? ⟨w.heap.size, 2, none⟩ = false := by have h := HR.out.2.2.1; simp only [World.frozen?, h]; simp
      go_wp2
      obtain ⟨wq, hq⟩ : ∃ wq, ((wr.setCell ⟨w.heap.size, 0, none⟩ (.slice (some ⟨w.heap.size + 1, 0, none⟩) k k)).setCell ⟨w.heap.size, 1, none⟩ (.slice (some ⟨w1.heap.size, 0, none⟩) k k)).setCell ⟨w.heap.size, 2, none⟩ (.slice none 0 0) = wq := ⟨_, rfl⟩
      have d0 : wq.cell? ⟨w.heap.size, 0, none⟩ = some (.slice (some ⟨w.heap.size + 1, 0, none⟩) k k) := by
        rw [← hq, cell_set_ne _ _ _ _ _ (by decide), cell_set_ne _ _ _ _ _ (by decide)]; exact cell_set_same _ _ _ _ _ c0
      have d1 : wq.cell? ⟨w.heap.size, 1, none⟩ = some (.slice (some ⟨w1.heap.size, 0, none⟩) k k) := by
        rw [← hq, cell_set_ne _ _ _ _ _ (by decide)]; exact cell_set_same _ _ _ _ _ ((cell_set_ne _ _ _ _ _ (by decide)).trans c1)
      have d2 : wq.cell? ⟨w.heap.size, 2, none⟩ = some (.slice none 0 0) := by
        rw [← hq]; exact cell_set_same _ _ _ _ _ (((cell_set_ne _ _ _ _ _ (by decide)).trans (cell_set_ne _ _ _ _ _ (by decide))).trans c2)
      rw [hq]
      have HQ : Hid (_ = wq) := hq
      clear hq
      refine bodyPost_ret (by simp [results, Ybad.results6, go_sem, d0, d1, d2]; try rfl) rfl ?_
      obtain ⟨r1, r2, r3, r4⟩ := HR.out
      refine ⟨_, _, rfl, by omega, by omega, by omega, ?_, ?_, ?_⟩ <;> rw [← HQ.out]
      · exact ((r1.other (by omega) _).other (by omega) _).other (by omega) _
      · exact ((r2.other (by omega) _).other (by omega) _).other (by omega) _
      · exact ((r4.setCell (by show _ ≤ _; simp) _).setCell (by show _ ≤ _; simp) _).setCell (by show _ ≤ _; simp) _
end Go.Proofs.YbulkoqcDoor
