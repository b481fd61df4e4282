/- The sets of bytes in memory: masked, full, the letters, complement. Own work over this program's translation. -/
import Derived.Test.YbulkoqcDoorKept
import Derived.Test.YbulkoqcDoorBits
import Derived.Handy
import Derived.WalkLawsBesides
namespace Go.Proofs.YbulkoqcDoor
open Go.RowKit
set_option linter.unusedVariables false

set_option maxRecDepth 100000 in
set_option maxHeartbeats 400000 in
theorem masked_any (v m : Nat) (w : World) (hv : v < 256) (hm : m < 256) :
    Calls Ybad.prog 7 #[.int .u8 v, .int .u8 m] w fun e w' => e = .returned (.agg (wds (mt v m))) ∧ Below w.heap.size w w' := by
  have hvm : bits .and .u8 (v : Int) (m : Int) = ((v &&& m : Nat) : Int) := u8_and_nat v m hv hm
  have HVM : Hid (bits .and .u8 (v : Int) (m : Int) = ((v &&& m : Nat) : Int)) := hvm
  clear hvm
  go_enter Ybad.func7, Ybad.ntmps7
  go_wp2
  go_loopw [6] (fun i wr => ∃ k : Nat, k ≤ 256 ∧ i = .int .i64 k ∧ wr = (w.alloc (.cells #[.int .u64 0, .int .u64 0, .int .u64 0, .int .u64 0] 38)).alloc (.cells (wds (fun b => decide (b < k) && mt v m b)) 38)) (fun i _ => 256 - (intOf i).toNat)
  case atStart => exact ⟨0, by omega, rfl, by rw [← wds_empty]; rw [wds_congr (P := fun b => decide (b < 0) && mt v m b) (Q := fun _ => false) (fun b _ => by simp)]⟩
  case round =>
    obtain ⟨k, hk, rfl, rfl⟩ := hrel
    by_cases hlt : k < 256
    · have hx := wds_at (fun b => decide (b < k) && mt v m b) (k / 64) (by omega)
      obtain ⟨A, hA⟩ : ∃ A, wds (fun b => decide (b < k) && mt v m b) = A := ⟨_, rfl⟩
      obtain ⟨x, hxx⟩ : ∃ x, wd (fun b => decide (b < k) && mt v m b) (k / 64) = x := ⟨_, rfl⟩
      rw [hA, hxx] at hx
      rw [hA]
      have HA : Hid (wds (fun b => decide (b < k) && mt v m b) = A) := hA
      have HX : Hid (wd (fun b => decide (b < k) && mt v m b) (k / 64) = x) := hxx
      clear hA hxx
      have HKM : Hid (bits .and .u8 (k : Int) (m : Int) = ((k &&& m : Nat) : Int)) := u8_and_nat k m hlt hm
      go_wp2
      · go_roundw
        case rel =>
          have ht : mt v m k = true := by
            have h : (bits .and .u8 (k : Int) (m : Int) == bits .and .u8 (v : Int) (m : Int)) = true := by assumption
            rw [HKM.out, HVM.out] at h
            unfold mt
            simp only [beq_iff_eq] at h ⊢
            omega
          refine ⟨k + 1, by omega, by go_num, ?_⟩
          rw [← HA.out, ← HX.out, wds_put _ _ hlt]
          congr 2
          refine wds_congr (fun b _ => ?_)
          by_cases hb : b = k
          · subst hb; simp [ht]
          · have e1 : decide (b < k + 1) = decide (b < k) := by simp only [decide_eq_decide]; omega
            have e2 : (b == k) = false := by simp [hb]
            rw [e1, e2, Bool.or_false]
        case measure => simp [intOf]; omega
      · go_roundw
        case rel =>
          have ht : mt v m k = false := by
            have h : (bits .and .u8 (k : Int) (m : Int) == bits .and .u8 (v : Int) (m : Int)) = false := by assumption
            rw [HKM.out, HVM.out] at h
            unfold mt
            simp only [beq_eq_false_iff_ne] at h ⊢
            omega
          refine ⟨k + 1, by omega, by go_num, ?_⟩
          rw [← HA.out]
          congr 2
          refine wds_congr (fun b _ => ?_)
          by_cases hb : b = k
          · subst hb; simp [ht]
          · have e1 : decide (b < k + 1) = decide (b < k) := by simp only [decide_eq_decide]; omega
            rw [e1]
        case measure => simp [intOf]; omega
    · have hP : wds (fun b => decide (b < k) && mt v m b) = wds (mt v m) := wds_congr (fun b hb => by rw [decide_eq_true (by omega), Bool.true_and])
      rw [hP]
      unfold wds
      clear hP
      go_wp2
      go_returns
      exact ⟨rfl, by go_grown⟩
/-- A set of bytes lies in block sb. -/
def IsSet (w : World) (sb : Nat) (P : Nat → Bool) : Prop := w.heap[sb]? = some (.cells (wds P) 38 (0, 0))

theorem IsSet.cell {w : World} {sb : Nat} {P : Nat → Bool} (h : IsSet w sb P) (k : Nat) (hk : k < 4) : w.cell? ⟨sb, k, none⟩ = some (.int .u64 (wd P k)) := by
  rw [cell_of_row w sb k _ _ _ h]; exact wds_at P k hk
theorem IsSet.frozen {w : World} {sb : Nat} {P : Nat → Bool} (h : IsSet w sb P) (k : Nat) : w.frozen? ⟨sb, k, none⟩ = false := by
  unfold IsSet at h
  simp only [World.frozen?, h]; simp
theorem IsSet.lt {w : World} {sb : Nat} {P : Nat → Bool} (h : IsSet w sb P) : sb < w.heap.size := lt_of_block h
theorem IsSet.drew {w : World} {sb : Nat} {P : Nat → Bool} (h : IsSet w sb P) : IsSet w.drew sb P := h
theorem IsSet.congr {w : World} {sb : Nat} {P Q : Nat → Bool} (h : IsSet w sb P) (hq : ∀ b, b < 256 → P b = Q b) : IsSet w sb Q := by
  unfold IsSet; rw [← wds_congr hq]; exact h
theorem IsSet.kept {w w' : World} {sb : Nat} {P : Nat → Bool} {S : List Nat} (h : IsSet w sb P) (k : Kept S w w') (hS : sb ∉ S) : IsSet w' sb P := (k.block sb h.lt hS).trans h
theorem IsSet.alloc {w : World} {sb : Nat} {P : Nat → Bool} (h : IsSet w sb P) (o : Obj) : IsSet (w.alloc o) sb P := (Below.heap_alloc w o sb h.lt).trans h
theorem isSet_new (w : World) (P : Nat → Bool) : IsSet (w.alloc (.cells (wds P) 38)) w.heap.size P := heap_alloc_new w _
theorem heap_setCell_at {w : World} {b i : Nat} {c : Array Value} {t : TypeId} {fr : Nat × Nat} (h : w.heap[b]? = some (.cells c t fr)) (v : Value) : (w.setCell ⟨b, i, none⟩ v).heap[b]? = some (.cells (c.setIfInBounds i v) t fr) := by
  simp [World.setCell, Array.getElem?_modify, h]
theorem IsSet.put {w : World} {sb : Nat} {P : Nat → Bool} (h : IsSet w sb P) (b : Nat) (hb : b < 256) :
    IsSet (w.setCell ⟨sb, b / 64, none⟩ (.int .u64 (bits .or .u64 (wd P (b / 64) : Int) (IntKind.u64.wrap (2 ^ (b % 64)))))) sb (fun x => P x || x == b) := by
  unfold IsSet
  rw [heap_setCell_at h, wds_put P b hb]

theorem full_any (w : World) : Calls Ybad.prog 8 #[] w fun e w' => e = .returned (.agg (wds (fun _ => true))) ∧ Below w.heap.size w w' := by
  rw [wds_full]
  go_enter Ybad.func8, Ybad.ntmps8
  go_wp2
  go_returns
  exact ⟨rfl, by go_grown⟩

/-- An ASCII letter. -/
def letter (b : Nat) : Bool := (decide (97 ≤ b) && decide (b ≤ 122)) || (decide (65 ≤ b) && decide (b ≤ 90))

theorem ret_b {a b : Bool} (h : a = b) : Ending.returned (.bool a) = .returned (.bool b) := by rw [h]

set_option maxRecDepth 100000 in
theorem isletter_any (b : Nat) (w : World) (hb : b < 256) : Calls Ybad.prog 11 #[.int .u8 b] w fun e w' => e = .returned (.bool (letter b)) ∧ w' = w := by
  by_cases h1 : 97 ≤ b ∧ b ≤ 122
  · have e : letter b = true := by unfold letter; simp [h1]
    rw [e]
    obtain ⟨h2, h3⟩ := h1
    clear e
    go_enter Ybad.func11, Ybad.ntmps11
    go_wp2
    go_ret
    exact ⟨rfl, rfl⟩
  · by_cases h4 : 65 ≤ b ∧ b ≤ 90
    · have e : letter b = true := by unfold letter; simp [h4]
      rw [e]
      obtain ⟨h2, h3⟩ := h4
      have e1 : decide (97 ≤ (b : Int)) = false := by simp; omega
      have e4 : decide ((b : Int) ≤ 90) = true := by simp; omega
      clear e h1
      go_enter Ybad.func11, Ybad.ntmps11
      go_wp2
      go_ret
      exact ⟨rfl, rfl⟩
    · have e : letter b = false := by unfold letter; simp; omega
      rw [e]
      clear e
      by_cases h5 : 97 ≤ b
      · have e2 : decide ((b : Int) ≤ 122) = false := by simp; omega
        have e3 : decide ((b : Int) ≤ 90) = false := by simp; omega
        clear h1 h4
        go_enter Ybad.func11, Ybad.ntmps11
        go_wp2
        go_ret
        exact ⟨rfl, rfl⟩
      · have e2 : decide (97 ≤ (b : Int)) = false := by simp; omega
        by_cases h6 : 65 ≤ b
        · have e3 : decide ((b : Int) ≤ 90) = false := by simp; omega
          clear h1 h4
          go_enter Ybad.func11, Ybad.ntmps11
          go_wp2
          go_ret
          exact ⟨rfl, rfl⟩
        · have e3 : decide (65 ≤ (b : Int)) = false := by simp; omega
          clear h1 h4
          go_enter Ybad.func11, Ybad.ntmps11
          go_wp2
          go_ret
          exact ⟨rfl, rfl⟩

theorem letter_fold : ∀ b, b < 256 → (decide (65 ≤ b &&& (255 - 32)) && decide (b &&& (255 - 32) ≤ 90)) = letter b := by decide +kernel

set_option maxRecDepth 100000 in
theorem isLetter_any (b : Nat) (w : World) (hb : b < 256) : Calls Ybad.prog 21 #[.int .u8 b] w fun e w' => e = .returned (.bool (letter b)) ∧ w' = w := by
  have hf := letter_fold b hb
  have hx := u8_andNot_nat b 32 hb (by omega)
  obtain ⟨x, hxx⟩ : ∃ x, b &&& (255 - 32) = x := ⟨_, rfl⟩
  rw [hxx] at hf hx
  have HX : Hid (bits .andNot .u8 (b : Int) 32 = (x : Int)) := hx
  rw [← hf]
  clear hxx hf hx
  by_cases h1 : 65 ≤ x
  · by_cases h2 : x ≤ 90
    · have e : (decide (65 ≤ x) && decide (x ≤ 90)) = true := by simp [h1, h2]
      rw [e]
      clear e
      have e1 : decide (65 ≤ bits .andNot .u8 (b : Int) 32) = true := by rw [HX.out]; simp; omega
      have e2 : decide (bits .andNot .u8 (b : Int) 32 ≤ 90) = true := by rw [HX.out]; simp; omega
      go_enter Ybad.func21, Ybad.ntmps21
      go_wp2
      go_ret
      exact ⟨rfl, rfl⟩
    · have e : (decide (65 ≤ x) && decide (x ≤ 90)) = false := by simp [h2]
      rw [e]
      clear e
      have e1 : decide (65 ≤ bits .andNot .u8 (b : Int) 32) = true := by rw [HX.out]; simp; omega
      have e2 : decide (bits .andNot .u8 (b : Int) 32 ≤ 90) = false := by rw [HX.out]; simp; omega
      go_enter Ybad.func21, Ybad.ntmps21
      go_wp2
      go_ret
      exact ⟨rfl, rfl⟩
  · have e : (decide (65 ≤ x) && decide (x ≤ 90)) = false := by simp [h1]
    rw [e]
    clear e
    have e1 : decide (65 ≤ bits .andNot .u8 (b : Int) 32) = false := by rw [HX.out]; simp; omega
    go_enter Ybad.func21, Ybad.ntmps21
    go_wp2
    go_ret
    exact ⟨rfl, rfl⟩

end Go.Proofs.YbulkoqcDoor
