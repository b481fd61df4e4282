/- complement and add over sets of bytes in memory. Own work over this program's translation. -/
import Derived.Test.YbulkoqcDoorSets
namespace Go.Proofs.YbulkoqcDoor
open Go.RowKit
set_option linter.unusedVariables false

theorem not_word (x : Nat) (h : x < 2 ^ 64) : 18446744073709551615 ^^^ x = 18446744073709551615 - x := by
  rw [show (18446744073709551615 - x) = 2 ^ 64 - (x + 1) from by omega, show (18446744073709551615 : Nat) = 2 ^ 64 - 1 from rfl]
  apply Nat.eq_of_testBit_eq
  intro i
  rw [Nat.testBit_two_pow_sub_succ h, Nat.testBit_xor, Nat.testBit_two_pow_sub_one]
  by_cases hi : i < 64
  · simp [hi]
  · rw [Nat.testBit_lt_two_pow (Nat.lt_of_lt_of_le h (Nat.pow_le_pow_right (by omega) (by omega)))]
    simp [hi]

theorem xor_max (x y : Nat) (h : x < 18446744073709551616) (hy : 18446744073709551615 - x = y) : bits .xor .u64 IntKind.u64.max (x : Int) = (y : Int) := by
  have e : IntKind.u64.max = ((18446744073709551615 : Nat) : Int) := by decide
  rw [e, u64_xor_nat _ _ (by omega) h, not_word x h, hy]

set_option maxRecDepth 100000 in
set_option maxHeartbeats 400000 in
theorem complement_any (P : Nat → Bool) (w : World) :
    Calls Ybad.prog 23 #[.agg (wds P)] w fun e w' => e = .returned (.agg (wds (fun b => !P b))) ∧ Below w.heap.size w w' := by
  unfold wds
  rw [wd_not, wd_not, wd_not, wd_not]
  have l0 := wd_lt' P 0
  have l1 := wd_lt' P 1
  have l2 := wd_lt' P 2
  have l3 := wd_lt' P 3
  generalize wd P 0 = x0 at *
  generalize wd P 1 = x1 at *
  generalize wd P 2 = x2 at *
  generalize wd P 3 = x3 at *
  have L : Hid (x0 < 18446744073709551616 ∧ x1 < 18446744073709551616 ∧ x2 < 18446744073709551616 ∧ x3 < 18446744073709551616) := ⟨l0, l1, l2, l3⟩
  clear l0 l1 l2 l3
  obtain ⟨y0, hy0⟩ : ∃ y, 18446744073709551615 - x0 = y := ⟨_, rfl⟩
  obtain ⟨y1, hy1⟩ : ∃ y, 18446744073709551615 - x1 = y := ⟨_, rfl⟩
  obtain ⟨y2, hy2⟩ : ∃ y, 18446744073709551615 - x2 = y := ⟨_, rfl⟩
  obtain ⟨y3, hy3⟩ : ∃ y, 18446744073709551615 - x3 = y := ⟨_, rfl⟩
  rw [hy0, hy1, hy2, hy3]
  have HY : Hid (18446744073709551615 - x0 = y0 ∧ 18446744073709551615 - x1 = y1 ∧ 18446744073709551615 - x2 = y2 ∧ 18446744073709551615 - x3 = y3) := ⟨hy0, hy1, hy2, hy3⟩
  clear hy0 hy1 hy2 hy3
  go_enter Ybad.func23, Ybad.ntmps23
  go_wp2
  go_returns
  obtain ⟨hy0, hy1, hy2, hy3⟩ := HY.out
  obtain ⟨l0, l1, l2, l3⟩ := L.out
  refine ⟨?_, by go_grown⟩
  rw [xor_max x0 y0 l0 hy0, xor_max x1 y1 l1 hy1, xor_max x2 y2 l2 hy2, xor_max x3 y3 l3 hy3]

/-- One word more of a union. -/
theorem wds_or_at (P Q : Nat → Bool) (k : Nat) (hk : k < 4) : (wds (fun b => P b || (decide (b < 64 * k) && Q b))).setIfInBounds k (.int .u64 (bits .or .u64 (wd (fun b => P b || (decide (b < 64 * k) && Q b)) k : Int) (wd Q k : Int))) = wds (fun b => P b || (decide (b < 64 * (k + 1)) && Q b)) := by
  rw [u64_or_nat _ _ (wd_lt' _ _) (wd_lt' _ _), ← wd_or]
  have e : wd (fun b => (P b || (decide (b < 64 * k) && Q b)) || Q b) k = wd (fun b => P b || (decide (b < 64 * (k + 1)) && Q b)) k := by
    apply wd_congr
    intro i hi
    rw [decide_eq_false (show ¬ 64 * k + i < 64 * k by omega), decide_eq_true (show 64 * k + i < 64 * (k + 1) by omega)]
    simp
  have o : ∀ j, j ≠ k → wd (fun b => P b || (decide (b < 64 * k) && Q b)) j = wd (fun b => P b || (decide (b < 64 * (k + 1)) && Q b)) j := by
    intro j hj
    apply wd_congr
    intro i hi
    have : decide (64 * j + i < 64 * k) = decide (64 * j + i < 64 * (k + 1)) := by simp only [decide_eq_decide]; omega
    rw [this]
  rw [e]
  generalize (fun b => P b || (decide (b < 64 * (k + 1)) && Q b)) = R at *
  generalize (fun b => P b || (decide (b < 64 * k) && Q b)) = S at *
  unfold wds
  match k, hk with
  | 0, _ => rw [o 1 (by omega), o 2 (by omega), o 3 (by omega)]; rfl
  | 1, _ => rw [o 0 (by omega), o 2 (by omega), o 3 (by omega)]; rfl
  | 2, _ => rw [o 0 (by omega), o 1 (by omega), o 3 (by omega)]; rfl
  | 3, _ => rw [o 0 (by omega), o 1 (by omega), o 2 (by omega)]; rfl

set_option maxRecDepth 100000 in
set_option maxHeartbeats 400000 in
theorem add_any (P Q : Nat → Bool) (sb : Nat) (w : World) (hs : IsSet w sb P) :
    Calls Ybad.prog 22 #[.pointer (some ⟨sb, 0, none⟩), .agg (wds Q)] w fun e w' => e = .returned (.tuple #[]) ∧ IsSet w' sb (fun b => P b || Q b) ∧ Kept [sb] w w' := by
  obtain ⟨AQ, hAQ⟩ : ∃ AQ, wds Q = AQ := ⟨_, rfl⟩
  have hsz : AQ.size = 4 := by rw [← hAQ]; rfl
  have hq : ∀ k, k < 4 → AQ[k]? = some (.int .u64 (wd Q k)) := fun k hk => by rw [← hAQ]; exact wds_at Q k hk
  rw [hAQ]
  have HQ : Hid (∀ k, k < 4 → AQ[k]? = some (.int .u64 (wd Q k))) := hq
  have HA : Hid (wds Q = AQ) := hAQ
  have HS : Hid (IsSet w sb P) := hs
  have hlt : sb < w.heap.size := hs.lt
  clear hq hAQ hs
  go_enter Ybad.func22, Ybad.ntmps22
  go_wp2
  go_loopw [5] (fun i wr => ∃ k : Nat, k ≤ 4 ∧ i = .int .i64 k ∧ IsSet wr sb (fun b => P b || (decide (b < 64 * k) && Q b)) ∧ IsSet wr w.heap.size Q ∧ Kept [sb] w wr) (fun i _ => 4 - (intOf i).toNat)
  case atStart =>
    refine ⟨0, by omega, rfl, (HS.out.alloc _).congr (fun b _ => by simp), ?_, (Kept.refl _ _).alloc _⟩
    rw [← HA.out]
    exact isSet_new w Q
  case round =>
    obtain ⟨k, hk, rfl, h1, h2, h3⟩ := hrel
    by_cases hk4 : k < 4
    · have c1 := h1.cell k hk4
      have c2 := h2.cell k hk4
      have f1 := h1.frozen k
      have b1 : (0 : Int) ≤ (k : Int) := by omega
      have b2 : (k : Int) < 4 := by omega
      have H1 : Hid (IsSet wr sb (fun b => P b || (decide (b < 64 * k) && Q b)) ∧ IsSet wr w.heap.size Q ∧ Kept [sb] w wr) := ⟨h1, h2, h3⟩
      clear h1 h2 h3
      go_wp2
      go_big_region
      go_wp2
      obtain ⟨h1, h2, h3⟩ := H1.out
      go_roundw
      case rel =>
        refine ⟨k + 1, by omega, by go_num, ?_, ?_, ?_⟩
        · refine IsSet.drew ?_
          unfold IsSet
          rw [heap_setCell_at h1, wds_or_at P Q k hk4]
        · refine IsSet.drew ?_
          unfold IsSet
          rw [Below.heap_setCell _ _ _ _ (by show w.heap.size ≠ sb; omega)]
          exact h2
        · exact (h3.setCell (p := ⟨sb, k, none⟩) (.inl (by simp)) _).drew
      case measure => simp [intOf]; omega
    · obtain rfl : k = 4 := by omega
      go_wp2
      go_end0
      exact ⟨rfl, h1.congr (fun b hb => by rw [decide_eq_true (show b < 64 * 4 by omega)]; simp), h3⟩
end Go.Proofs.YbulkoqcDoor
