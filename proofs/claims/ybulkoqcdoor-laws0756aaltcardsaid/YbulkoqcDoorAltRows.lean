/- LawS0756AAlt: the rows of values and masks. Own work over this program's translation. -/
import Derived.Test.YbulkoqcDoorAlt
namespace Go.Proofs.YbulkoqcDoor
open Go.RowKit
set_option linter.unusedVariables false

/-- A row of bytes, as a list of cells. -/
def bts (V : Nat → Nat) (k : Nat) : List Value := rowCells (fun j => [.int .u8 (V j)]) k
theorem bts_succ (V : Nat → Nat) (k : Nat) : bts V (k + 1) = bts V k ++ [.int .u8 (V k)] := rowCells_succ _ k
theorem bts_len (V : Nat → Nat) (k : Nat) : (bts V k).length = k := by
  have := rowCells_len (f := fun j => [Value.int .u8 (V j)]) (s := 1) (fun _ => rfl) k
  simpa [bts] using this
theorem bts_congr {V U : Nat → Nat} {k : Nat} (h : ∀ j, j < k → V j = U j) : bts V k = bts U k := rowCells_congr (fun j hj => by rw [h j hj])
theorem bts_add (V : Nat → Nat) (k m : Nat) : bts V (k + m) = bts V k ++ bts (fun j => V (k + j)) m := by
  induction m with
  | zero => simp [bts, rowCells_zero]
  | succ m ih => rw [← Nat.add_assoc, bts_succ, ih, bts_succ, List.append_assoc]
theorem bts_at (V : Nat → Nat) (k j : Nat) (h : j < k) : (bts V k)[j]? = some (.int .u8 (V j)) := by
  have := rowCells_at (f := fun j => [Value.int .u8 (V j)]) (s := 1) (fun _ => rfl) k j 0 h (by omega)
  simpa [bts] using this
theorem bts_one (V : Nat → Nat) (k : Nat) : ∀ u ∈ bts V k, u.oneCell' = true := by
  intro u hu
  obtain ⟨j, hj⟩ := List.mem_iff_getElem?.1 hu
  have hl : j < k := by
    have := (List.getElem?_eq_some_iff.1 hj).1
    rw [bts_len] at this; exact this
  rw [bts_at V k j hl] at hj
  obtain rfl := Option.some.inj hj
  rfl
theorem bts_news {w : World} {g m : Nat} {z : Nat → Nat} (h : IsRow8 w g z m m) {V : Nat → Nat} (hV : ∀ j, j < m → V j = z j) : ∀ j u, (bts V m)[j]? = some u → w.cell? ((⟨g, 0, none⟩ : Addr).add j) = some u := by
  intro j u hu
  have hl : j < m := by
    have := (List.getElem?_eq_some_iff.1 hu).1
    rw [bts_len] at this; exact this
  rw [bts_at V m j hl] at hu
  obtain rfl := Option.some.inj hu
  rw [Addr.add_lit, Nat.zero_add, h.cell j hl, if_pos hl, hV j hl]
theorem bts_cell {w : World} {base g n cap : Nat} {V : Nat → Nat} (h : w.ownsRow base 5 1 (.slice (some ⟨g, 0, none⟩) n cap) n (bts V n)) (j : Nat) (hj : j < n) : w.cell? ⟨g, j, none⟩ = some (.int .u8 (V j)) := by
  have := own_cell (f := fun j => [Value.int .u8 (V j)]) (s := 1) (fun _ => rfl) h j 0 hj (by omega)
  simpa using this

/-- Between the two parts and the form. -/
structure Mid (W w : World) (p1 p2 g1 m1 g2 m2 vb mb : Nat) (zp zq : Nat → Nat) (l0 l1 n : Nat) (V M : Nat → Nat) (kv km : Nat) : Prop where
  kept : Kept [] W w
  b1 : w.heap[p1]? = some (.cells #[.slice (some ⟨g1, 0, none⟩) l0 l0, .slice (some ⟨m1, 0, none⟩) l0 l0, .slice none 0 0] 31 (0, 0))
  b2 : w.heap[p2]? = some (.cells #[.slice (some ⟨g2, 0, none⟩) l1 l1, .slice (some ⟨m2, 0, none⟩) l1 l1, .slice none 0 0] 31 (0, 0))
  r1 : IsRow8 w g1 (pv zp) l0 l0
  r2 : IsRow8 w m1 (pm zp) l0 l0
  r3 : IsRow8 w g2 (pv zq) l1 l1
  r4 : IsRow8 w m2 (pm zq) l1 l1
  ov : w.ownsRow W.heap.size 5 1 (.slice (some ⟨vb, 0, none⟩) kv n) kv (bts V kv)
  om : w.ownsRow W.heap.size 5 1 (.slice (some ⟨mb, 0, none⟩) km n) km (bts M km)
  ne : vb ≠ mb ∧ p1 ≠ vb ∧ p2 ≠ vb ∧ g1 ≠ vb ∧ m1 ≠ vb ∧ g2 ≠ vb ∧ m2 ≠ vb ∧ p1 ≠ mb ∧ p2 ≠ mb ∧ g1 ≠ mb ∧ m1 ≠ mb ∧ g2 ≠ mb ∧ m2 ≠ mb ∧ W.heap.size ≤ vb ∧ W.heap.size ≤ mb

theorem Mid.alloc {W w : World} {p1 p2 g1 m1 g2 m2 vb mb : Nat} {zp zq : Nat → Nat} {l0 l1 n : Nat} {V M : Nat → Nat} {kv km : Nat} (h : Mid W w p1 p2 g1 m1 g2 m2 vb mb zp zq l0 l1 n V M kv km) (o : Obj) : Mid W (w.alloc o) p1 p2 g1 m1 g2 m2 vb mb zp zq l0 l1 n V M kv km :=
  ⟨h.kept.alloc _, (Below.heap_alloc w o p1 (lt_of_block h.b1)).trans h.b1, (Below.heap_alloc w o p2 (lt_of_block h.b2)).trans h.b2, h.r1.block (Below.heap_alloc w o _ h.r1.lt), h.r2.block (Below.heap_alloc w o _ h.r2.lt), h.r3.block (Below.heap_alloc w o _ h.r3.lt), h.r4.block (Below.heap_alloc w o _ h.r4.lt), h.ov.alloc _, h.om.alloc _, h.ne⟩
theorem grow_owns {w w' : World} {b base size n : Nat} {e : TypeId} {v : Value} {xs : List Value} (hg : w.grownBy w' (some b)) (ho : w.ownsRow base e size v n xs) (hb : ∀ k, v.ownBlock = some k → k ≠ b) : w'.ownsRow base e size v n xs :=
  Kept.owns (S := [b]) ((Kept.refl [b] w).grown hg (fun k hk => .inl (by cases hk; simp))) ho (fun k hk => by simpa using hb k hk)
theorem Mid.val {W w w' : World} {p1 p2 g1 m1 g2 m2 vb mb : Nat} {zp zq : Nat → Nat} {l0 l1 n : Nat} {V M : Nat → Nat} {kv km kv' : Nat} (h : Mid W w p1 p2 g1 m1 g2 m2 vb mb zp zq l0 l1 n V M kv km) (hg : w.grownBy w' (some vb)) (ho : w'.ownsRow W.heap.size 5 1 (.slice (some ⟨vb, 0, none⟩) kv' n) kv' (bts V kv')) : Mid W w' p1 p2 g1 m1 g2 m2 vb mb zp zq l0 l1 n V M kv' km := by
  obtain ⟨e0, e1, e2, e3, e4, e5, e6, f1, f2, f3, f4, f5, f6, e7, e8⟩ := h.ne
  have st : ∀ b, b < w.heap.size → b ≠ vb → w'.heap[b]? = w.heap[b]? := fun b hb hn => hg.block b hb (fun e => hn (Option.some.inj e))
  exact ⟨h.kept.grown hg (fun k hk => .inr (by cases hk; exact e7)), (st _ (lt_of_block h.b1) e1).trans h.b1, (st _ (lt_of_block h.b2) e2).trans h.b2, h.r1.block (st _ h.r1.lt e3), h.r2.block (st _ h.r2.lt e4), h.r3.block (st _ h.r3.lt e5), h.r4.block (st _ h.r4.lt e6), ho,
    grow_owns hg h.om (fun k hk => by simp [Value.ownBlock] at hk; omega), h.ne⟩
theorem Mid.mask {W w w' : World} {p1 p2 g1 m1 g2 m2 vb mb : Nat} {zp zq : Nat → Nat} {l0 l1 n : Nat} {V M : Nat → Nat} {kv km km' : Nat} (h : Mid W w p1 p2 g1 m1 g2 m2 vb mb zp zq l0 l1 n V M kv km) (hg : w.grownBy w' (some mb)) (ho : w'.ownsRow W.heap.size 5 1 (.slice (some ⟨mb, 0, none⟩) km' n) km' (bts M km')) : Mid W w' p1 p2 g1 m1 g2 m2 vb mb zp zq l0 l1 n V M kv km' := by
  obtain ⟨e0, f1, f2, f3, f4, f5, f6, e1, e2, e3, e4, e5, e6, e7, e8⟩ := h.ne
  have st : ∀ b, b < w.heap.size → b ≠ mb → w'.heap[b]? = w.heap[b]? := fun b hb hn => hg.block b hb (fun e => hn (Option.some.inj e))
  exact ⟨h.kept.grown hg (fun k hk => .inr (by cases hk; exact e8)), (st _ (lt_of_block h.b1) e1).trans h.b1, (st _ (lt_of_block h.b2) e2).trans h.b2, h.r1.block (st _ h.r1.lt e3), h.r2.block (st _ h.r2.lt e4), h.r3.block (st _ h.r3.lt e5), h.r4.block (st _ h.r4.lt e6),
    grow_owns hg h.ov (fun k hk => by simp [Value.ownBlock] at hk; omega), ho, h.ne⟩

/-- The part's values and masks. -/
def altV (zp zq : Nat → Nat) (l0 ml : Nat) (j : Nat) : Nat := if j < l0 then zp j else if j < l0 + ml then 0 else zq (j - (l0 + ml))
theorem altV_pre {zp zq : Nat → Nat} {l0 ml j : Nat} (h : j < l0) : altV zp zq l0 ml j = zp j := if_pos h
theorem altV_mid {zp zq : Nat → Nat} {l0 ml j : Nat} (h : j < ml) : altV zp zq l0 ml (l0 + j) = 0 := by unfold altV; rw [if_neg (by omega), if_pos (by omega)]
theorem altV_post {zp zq : Nat → Nat} {l0 ml j : Nat} : altV zp zq l0 ml (l0 + ml + j) = zq j := by unfold altV; rw [if_neg (by omega), if_neg (by omega)]; congr 1; omega

theorem altRest10 : dropSeq 10 (Ybad.f4.body.getD .skip) = (headSeq 10 (Ybad.f4.body.getD .skip)).seq ((headSeq 11 (Ybad.f4.body.getD .skip)).seq ((headSeq 12 (Ybad.f4.body.getD .skip)).seq ((headSeq 13 (Ybad.f4.body.getD .skip)).seq ((headSeq 14 (Ybad.f4.body.getD .skip)).seq ((headSeq 15 (Ybad.f4.body.getD .skip)).seq ((headSeq 16 (Ybad.f4.body.getD .skip)).seq (dropSeq 17 (Ybad.f4.body.getD .skip)))))))) := by kernel_rfl
end Go.Proofs.YbulkoqcDoor
