/- LawS0756BCount: the walk of the law itself (a slice that holds elements). Own work over this program's translation. -/
import Derived.Test.YbulkoqcEndCount
import Derived.Laws.CopyOwn
import Derived.Deep.QuietTactic
import Derived.BigQuiet
import Derived.Deep.DeepCutAuto
namespace Go.Proofs.Ybulkoqc
open Go.RowKit
set_option linter.unusedVariables false

theorem count_pos.frozen_new (w : World) (cs : Array Value) (t : TypeId) (o : Nat) : (w.alloc (.cells cs t)).frozen? ⟨w.heap.size, o, none⟩ = false := by
  simp only [World.frozen?, heap_alloc_new]
  simp
theorem count_pos.below_dn {B : Nat} {a w : World} (h : Below B a w) (n : Nat) : Below B a (w.drewN n) := ⟨h.os, h.tape, h.output, h.size, h.block⟩

set_option maxRecDepth 100000 in
set_option maxHeartbeats 2000000 in
theorem count_pos (parts bytes s k wr runs inRuns : Int) (big : Bool) (bd off n cap : Nat) (Bf : Nat → Bool) (w : World)
    (hn0 : 0 < n) (hbd : bd < w.heap.size) (hn : n ≤ 1024)
    (h0 : -1099511627776 ≤ parts) (h1 : parts ≤ 1099511627776) (h2 : -1099511627776 ≤ bytes) (h3 : bytes ≤ 1099511627776)
    (h4 : 0 ≤ s) (h5 : s ≤ 65535) (h6 : 0 ≤ wr) (h7 : wr ≤ 255) (h8 : 0 ≤ runs) (h9 : runs ≤ 65535) (h10 : 0 ≤ inRuns) (h11 : inRuns ≤ 65535)
    (hcell : ∀ j, j < n → w.cell? ⟨bd, off + j, none⟩ = some (.bool (Bf j))) :
    Calls Yba.prog 3 #[.int .i64 parts, .int .i64 bytes, .int .u16 s, .bool big, .int .u8 wr, .int .u16 runs, .int .u16 inRuns, .slice (some ⟨bd, off, none⟩) n cap, .int .i64 k] w fun e w' => e = .returned (.bool true) ∧ Below w.heap.size w w' := by
  obtain ⟨i0, hi, hz0, hz1, hz2⟩ := info_parts Yba.info4
  have Hcell : Hid (∀ j, j < n → w.cell? ⟨bd, off + j, none⟩ = some (.bool (Bf j))) := hcell
  clear hcell
  have e1 : decide (1024 < (n : Int)) = false := by simp; omega
  go_enter Yba.func3, Yba.ntmps3
  go_upto_if 48 with fail
  go_cut [19] (fun v wc => ∃ span : Int, 0 ≤ span ∧ span ≤ 5000 ∧ v = .int .i64 span ∧ w = wc)
  case first =>
    go_wp2
    all_goals go_meet
    all_goals case rel => exact ⟨_, by omega, by omega, rfl, rfl⟩
  case rest =>
    obtain ⟨span, hs0, hs1, rfl, rfl⟩ := hcut
    obtain ⟨cs, hcs⟩ : ∃ cs : List Value, cs = (List.range n).map (fun j => Value.bool (Bf j)) := ⟨_, rfl⟩
    have hcl : cs.length = n := by rw [hcs]; simp
    have Hcs : Hid (cs = (List.range n).map (fun j => Value.bool (Bf j))) := hcs
    clear hcs
    have Hcl : Hid (cs.length = n) := hcl
    clear hcl
    go_wp2_with (at_make; refine wpList_make_full _ rfl _ _ 23 rfl w.heap.size 4 i0 (.bool false) 1 Yba.underlying23 hi hz0 hz1 _ _ _ _ n rfl rfl rfl rfl ?m1 ?m2 (Nat.le_refl _) ?_)
    case m1 => rw [hz2]; omega
    case m2 => unfold maxLen; omega
    intro w1 hown1 hgrow1
    have hg1 : Hid (w1.heap[w.heap.size]? = some (.cells (List.replicate n (Value.bool false)).toArray 4 (0, 0))) := by
      rcases hown1.2 with ⟨h, _⟩ | ⟨g, cap, cur, h, _, hh, h1, h2, h3, h4⟩
      · cases h
      · simp at h
        obtain ⟨rfl, rfl⟩ := h
        have e := h4
        rw [List.take_of_length_le (by simp [h3])] at e
        show _ = _
        rw [hh]
        rw [toList_madeCells_one] at e
        rw [← e]
    have hb1 : Hid (Below w.heap.size w w1) := (Below.refl _ _).grown hgrow1 (Nat.le_refl _) (fun k h => by cases h)
    clear hown1 hgrow1
    go_wp2_with (refine wpList_copy_splice rfl (.tmp 59) (.tmp 60) 23 23 rfl 4 Yba.underlying23 (by rw [hi]; simp [hz1]) _ _ _ _ _ _ rfl rfl w.heap.size 0 _ 4 hg1.out cs ?k1 ?k2 ?k3 ?k4 w.heap.size w hb1.out (Nat.le_refl _) ?_)
    case k1 => rw [Hcl.out]; simp
    case k2 =>
      intro _ j v hv
      have hj : j < n := by have := (List.getElem?_eq_some_iff.1 hv).1; rw [Hcl.out] at this; exact this
      rw [hb1.out.cell (p := ⟨bd, off + j, none⟩) hbd, Hcell.out j hj]
      rw [Hcs.out] at hv
      simpa [hj] using hv
    case k3 => rw [Hcl.out]; simp
    case k4 =>
      intro v hv
      rw [Hcs.out] at hv
      obtain ⟨j, _, rfl⟩ := List.mem_map.1 hv
      rfl
    intro w2 HG2 hB2'
    have hB2 : Hid (Below w.heap.size w w2) := hB2'
    have hlt2 : w.heap.size < w2.heap.size := lt_of_block HG2.out
    clear hB2' hg1 hb1
    have Hown2 : Hid (w2.ownsRow w.heap.size 4 1 (.slice (some ⟨w.heap.size, 0, none⟩) n n) n cs) := by
      refine ⟨by rw [Hcl.out]; simp, Or.inr ⟨w.heap.size, n, _, rfl, Nat.le_refl _, HG2.out, Nat.le_refl _, ?_, ?_, ?_⟩⟩
      · unfold maxLen; omega
      · simp [splice, Hcl.out]
      · simp [splice, Hcl.out]
        rw [List.take_of_length_le (by rw [Hcl.out]; omega)]
    have hwm : 0 ≤ wr % 64 ∧ wr % 64 < 64 := by omega
    obtain ⟨hw0, hw1⟩ := hwm
    go_wp2_with fail
    by_cases hdv : 4096 < span + wr % 64
    · refine (endPart_yes w2.heap.size parts bytes k span (wr % 64) runs inRuns true w.heap.size n n cs _ (by simp) hn h0 h1 h2 h3 hs0 hs1 hw0 (by omega) h8 h9 h10 h11 ?cw (by omega) ?fr w.heap.size (by omega) (by omega) (Hown2.out.alloc _)).mono ?_
      case cw => constructor <;> simp [World.cell?_alloc_at]
      case fr => exact fun o => count_pos.frozen_new _ _ _ _
      rintro e w3 ⟨rfl, g', cap', hcw, hown3, hB3⟩
      have HB3 : Hid (Below w.heap.size w w3) := ((hB2.out.alloc (by omega) _).trans hB3)
      obtain ⟨c6, c7, c8, c9, c10, c11, c12, c13, c14, c15, c16, c19⟩ := hcw
      have Hrow : Hid (∀ j, j < n → w3.cell? ⟨g', j, none⟩ = some (.bool (Bf j))) := by
        intro j hj
        have := hown3.cells (g := g') rfl j (.bool (Bf j)) (by rw [List.getElem?_append_left (by rw [Hcl.out]; exact hj), Hcs.out]; simp [hj])
        simpa [Addr.add_lit] using this
      have hlast : w3.cell? ⟨g', n, none⟩ = some (.bool true) := by
        have := hown3.cells (g := g') rfl n (.bool true) (by rw [List.getElem?_append_right (by rw [Hcl.out]; exact Nat.le_refl _), Hcl.out]; simp)
        simpa [Addr.add_lit] using this
      have Hold : Hid (∀ j, j < n → w3.cell? ⟨bd, off + j, none⟩ = some (.bool (Bf j))) := fun j hj => (HB3.out.cell (p := ⟨bd, off + j, none⟩) hbd).trans (Hcell.out j hj)
      clear hown3 hB3 Hown2 HG2 hB2
      have hdd : decide (4096 < span + wr % 64) = true := by simp; omega
      go_wp2
      go_loopw [25] (fun i wr => ∃ j : Nat, j ≤ n ∧ i = .int .i64 j ∧ ∃ q, wr = w3.drewN q) (fun i _ => n - (intOf i).toNat)
      case atStart => exact ⟨0, Nat.zero_le _, rfl, 0, rfl⟩
      case round =>
        obtain ⟨j, hj, rfl, q, rfl⟩ := hrel
        by_cases hjn : j < n
        · have r1 := Hrow.out j hjn
          have r2 := Hold.out j hjn
          have b1 : (0 : Int) ≤ (j : Int) := by omega
          have b2 : (j : Int) < (n : Int) := by omega
          have b3 : (j : Int) < (n : Int) + 1 := by omega
          go_wp2
          go_quiet (fail)
          go_wp2
          go_roundw
          case rel => exact ⟨j + 1, by omega, by go_num, _, rfl⟩
          case measure => simp [intOf]; omega
        · go_wp2
          go_ret
          exact ⟨rfl, count_pos.below_dn HB3.out _⟩
    · refine (endPart_no w2.heap.size parts bytes k span (wr % 64) runs inRuns true w.heap.size n n cs _ (by simp) hn h0 h1 h2 h3 hs0 hs1 hw0 (by omega) h8 h9 h10 h11 ?cw (by omega) ?fr w.heap.size (by omega) (by omega) (Hown2.out.alloc _)).mono ?_
      case cw => constructor <;> simp [World.cell?_alloc_at]
      case fr => exact fun o => count_pos.frozen_new _ _ _ _
      rintro e w3 ⟨rfl, g', cap', hcw, hown3, hB3⟩
      have HB3 : Hid (Below w.heap.size w w3) := ((hB2.out.alloc (by omega) _).trans hB3)
      obtain ⟨c6, c7, c8, c9, c10, c11, c12, c13, c14, c15, c16, c19⟩ := hcw
      have Hrow : Hid (∀ j, j < n → w3.cell? ⟨g', j, none⟩ = some (.bool (Bf j))) := by
        intro j hj
        have := hown3.cells (g := g') rfl j (.bool (Bf j)) (by rw [List.getElem?_append_left (by rw [Hcl.out]; exact hj), Hcs.out]; simp [hj])
        simpa [Addr.add_lit] using this
      have hlast : w3.cell? ⟨g', n, none⟩ = some (.bool false) := by
        have := hown3.cells (g := g') rfl n (.bool false) (by rw [List.getElem?_append_right (by rw [Hcl.out]; exact Nat.le_refl _), Hcl.out]; simp)
        simpa [Addr.add_lit] using this
      have Hold : Hid (∀ j, j < n → w3.cell? ⟨bd, off + j, none⟩ = some (.bool (Bf j))) := fun j hj => (HB3.out.cell (p := ⟨bd, off + j, none⟩) hbd).trans (Hcell.out j hj)
      clear hown3 hB3 Hown2 HG2 hB2
      have hdd : decide (4096 < span + wr % 64) = false := by simp; omega
      go_wp2
      go_loopw [25] (fun i wr => ∃ j : Nat, j ≤ n ∧ i = .int .i64 j ∧ ∃ q, wr = w3.drewN q) (fun i _ => n - (intOf i).toNat)
      case atStart => exact ⟨0, Nat.zero_le _, rfl, 0, rfl⟩
      case round =>
        obtain ⟨j, hj, rfl, q, rfl⟩ := hrel
        by_cases hjn : j < n
        · have r1 := Hrow.out j hjn
          have r2 := Hold.out j hjn
          have b1 : (0 : Int) ≤ (j : Int) := by omega
          have b2 : (j : Int) < (n : Int) := by omega
          have b3 : (j : Int) < (n : Int) + 1 := by omega
          go_wp2
          go_quiet (fail)
          go_wp2
          go_roundw
          case rel => exact ⟨j + 1, by omega, by go_num, _, rfl⟩
          case measure => simp [intOf]; omega
        · go_wp2
          go_ret
          exact ⟨rfl, count_pos.below_dn HB3.out _⟩

end Go.Proofs.Ybulkoqc
