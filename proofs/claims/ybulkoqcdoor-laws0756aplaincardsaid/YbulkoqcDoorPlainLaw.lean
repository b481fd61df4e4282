/- LawS0756APlain, walked whole. Own work over this program's translation. -/
import Derived.Test.YbulkoqcDoorPlainParts
namespace Go.Proofs.YbulkoqcDoor
open Go.RowKit
set_option linter.unusedVariables false

theorem planRest0 : Ybad.f3.body.getD .skip = (headSeq 0 (Ybad.f3.body.getD .skip)).seq ((headSeq 1 (Ybad.f3.body.getD .skip)).seq ((headSeq 2 (Ybad.f3.body.getD .skip)).seq ((headSeq 3 (Ybad.f3.body.getD .skip)).seq (dropSeq 4 (Ybad.f3.body.getD .skip))))) := by kernel_rfl

set_option maxRecDepth 100000 in
set_option maxHeartbeats 4000000 in
theorem plain_law (w : World) (a0 : Option Addr) (b0 o0 n0 cap0 : Nat) (A : Nat → Option Addr) (B O Ln Cp : Nat → Nat) (z : Nat → Nat → Nat) (a1 : Option Addr) (b1 o1 len1 cap1 : Nat) (z1 : Nat → Nat)
    (hV : FullVar w) (h1l : 1 < w.heap.size) (hI : (0 < n0 → a0 = some ⟨b0, o0, none⟩ ∧ b0 < w.heap.size) ∧ (∀ i, i < n0 → w.cell? ⟨b0, o0 + i, none⟩ = some (.slice (A i) (Ln i) (Cp i))) ∧ (∀ i, i < n0 → 0 < Ln i → A i = some ⟨B i, O i, none⟩ ∧ B i < w.heap.size) ∧ (∀ i, i < n0 → ∀ j, j < Ln i → w.cell? ⟨B i, O i + j, none⟩ = some (.int .u16 (z i j))) ∧ (∀ i j, z i j < 65536)) (hG : (0 < len1 → a1 = some ⟨b1, o1, none⟩ ∧ b1 < w.heap.size) ∧ (∀ j, j < len1 → w.cell? ⟨b1, o1 + j, none⟩ = some (.int .u8 (z1 j))) ∧ (∀ j, z1 j < 256)) :
    Calls Ybad.prog 3 #[.slice a0 n0 cap0, .slice a1 len1 cap1] w fun e w' => e = .returned (.bool true) ∧ Below w.heap.size w w' := by
  have H0 : Hid ((0 < n0 → a0 = some ⟨b0, o0, none⟩ ∧ b0 < w.heap.size) ∧ (∀ i, i < n0 → w.cell? ⟨b0, o0 + i, none⟩ = some (.slice (A i) (Ln i) (Cp i))) ∧ (∀ i, i < n0 → 0 < Ln i → A i = some ⟨B i, O i, none⟩ ∧ B i < w.heap.size) ∧ (∀ i, i < n0 → ∀ j, j < Ln i → w.cell? ⟨B i, O i + j, none⟩ = some (.int .u16 (z i j))) ∧ (∀ i j, z i j < 65536)) := hI
  have H1 : Hid ((0 < len1 → a1 = some ⟨b1, o1, none⟩ ∧ b1 < w.heap.size) ∧ (∀ j, j < len1 → w.cell? ⟨b1, o1 + j, none⟩ = some (.int .u8 (z1 j))) ∧ (∀ j, z1 j < 256)) := hG
  have H2 : Hid (FullVar w ∧ 1 < w.heap.size) := ⟨hV, h1l⟩
  clear hI hG hV h1l
  go_enter Ybad.func3, Ybad.ntmps3
  refine (show Code.wp Ybad.prog (Ybad.f3.body.getD .skip) _ _ _ from ?_)
  rw [planRest0]
  conv => arg 2; arg 1; whnf
  go_wp2_with fail
  conv => arg 2; whnf
  by_cases hbig : 64 < n0
  · have c0 : ((64 : Int) < (n0 : Int)) := by omega
    go_wp2
    go_returns
    exact ⟨rfl, Below.refl _ _⟩
  · have c0 : ¬ ((64 : Int) < (n0 : Int)) := by omega
    have c1 : decide ((64 : Int) < (n0 : Int)) = false := by simp; omega
    go_wp2_with fail
    conv => arg 2; whnf
    go_wp2_with fail
    go_loopw [5] (fun x wr => ∃ i : Nat, i ≤ n0 ∧ x = .int .i64 i ∧ (∀ j, j < i → Ln j ≤ 256) ∧ wr = w) (fun x _ => n0 - (intOf x).toNat)
    case atStart => exact ⟨0, by omega, rfl, fun j hj => by omega, rfl⟩
    case round =>
      obtain ⟨i, hi, rfl, hsm, rfl⟩ := hrel
      have HS : Hid (∀ j, j < i → Ln j ≤ 256) := hsm
      clear hsm
      by_cases hin : i < n0
      · obtain ⟨ha, hb⟩ := H0.out.1 (by omega)
        subst ha
        have q1 := H0.out.2.1 i hin
        have d1 : (0 : Int) ≤ (i : Int) := by omega
        have d2 : (i : Int) < (n0 : Int) := by omega
        by_cases hbg : 256 < Ln i
        · have e0 : ((256 : Int) < (Ln i : Int)) := by omega
          go_wp2
          go_returns
          exact ⟨rfl, Below.refl _ _⟩
        · have e0 : ¬ ((256 : Int) < (Ln i : Int)) := by omega
          have e1 : decide ((256 : Int) < (Ln i : Int)) = false := by simp; omega
          go_wp2
          go_roundw
          case rel =>
            refine ⟨i + 1, by omega, by go_num, fun j hj => ?_, by first | trivial | rfl⟩
            by_cases h : j = i
            · subst h; omega
            · exact HS.out j (by omega)
          case measure => simp [intOf]; omega
      · obtain rfl : i = n0 := by omega
        go_wp2_with fail
        conv => arg 2; whnf
        go_wp2_with fail
        obtain ⟨hV, h1l⟩ := H2.out
        obtain ⟨i1, i2, i3, i4, i5⟩ := H0.out
        obtain ⟨g1, g2, g3⟩ := H1.out
        have K : Kept [] wr (wr.alloc (.cells #[.slice none 0 0, .slice none 0 0, .bool false] 28)) := (Kept.refl _ _).alloc _
        have up : ∀ b, b < wr.heap.size → b < (wr.alloc (.cells #[.slice none 0 0, .slice none 0 0, .bool false] 28)).heap.size := fun b hb => Nat.lt_of_lt_of_le hb K.size
        exact plain_parts (fun w' => Below wr.heap.size wr w') _ wr.heap.size a0 b0 o0 i cap0 A B O (fun j => if j < i then Ln j else 0) Cp z a1 b1 o1 len1 cap1 z1
          (fun w' h => (K.below wr.heap.size (Nat.le_refl _) (by simp)).trans (h.below wr.heap.size K.size (by simp))) (by omega) (heap_alloc_new wr _) (hV.kept K h1l (by simp)) (up 1 h1l) (by omega)
          ⟨fun h => ⟨(i1 h).1, up _ (i1 h).2, by have := (i1 h).2; omega⟩, fun j hj => by
              rw [if_pos hj]; exact (K.cell (p := ⟨b0, o0 + j, none⟩) (i1 (by omega)).2 (by simp)).trans (i2 j hj), fun j hj hl => by
              rw [if_pos hj] at hl
              exact ⟨(i3 j hj hl).1, up _ (i3 j hj hl).2, by have := (i3 j hj hl).2; omega⟩, fun j hj x hx => by
              rw [if_pos hj] at hx
              exact (K.cell (p := ⟨B j, O j + x, none⟩) (i3 j hj (by omega)).2 (by simp)).trans (i4 j hj x hx), i5, fun j => by
              show (if j < i then Ln j else 0) ≤ 256
              split
              · exact HS.out j (by assumption)
              · omega⟩
          ⟨fun h => ⟨(g1 h).1, up _ (g1 h).2, by have := (g1 h).2; omega⟩, fun j hj => (K.cell (p := ⟨b1, o1 + j, none⟩) (g1 (by omega)).2 (by simp)).trans (g2 j hj), g3⟩
          _ _ _ _ _ _ _ _ _ _ _ _ _ _ _ _ _ _ _ _ _ _ _ _ _ _ _ _ _ _ _ _ _ _ _ _ _ _ _ _ _ _ _ _ _ _ _ _ _ _ _ _ _ _ _ _ _ _ _ _ _ _ _ _ _ _ _ _ _ _ _ _ _ _ _ _ _ _ _ _ _ _ _ _ _ _ _ _ _ _ _ _ _ _ _ _ _ _ _ _ _ _ _ _ _ _ _ _ _ _ _ _ _ _ _ _ _ _ _ _ _ _ _ _ _ _ _ _ _ _ _ _ _ _ _ _ _ _ _ _ _ _ _ _ _ _ _ _ _ _ _ _ _ _ _ _ _ _ _ _ _ _ _
end Go.Proofs.YbulkoqcDoor
