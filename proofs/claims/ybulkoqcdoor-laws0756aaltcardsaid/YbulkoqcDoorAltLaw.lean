/- LawS0756AAlt, walked whole. Own work over this program's translation. -/
import Derived.Test.YbulkoqcDoorAltMem
namespace Go.Proofs.YbulkoqcDoor
open Go.RowKit
set_option linter.unusedVariables false

theorem altRest0 : Ybad.f4.body.getD .skip = (headSeq 0 (Ybad.f4.body.getD .skip)).seq ((headSeq 1 (Ybad.f4.body.getD .skip)).seq ((headSeq 2 (Ybad.f4.body.getD .skip)).seq ((headSeq 3 (Ybad.f4.body.getD .skip)).seq ((headSeq 4 (Ybad.f4.body.getD .skip)).seq ((headSeq 5 (Ybad.f4.body.getD .skip)).seq ((headSeq 6 (Ybad.f4.body.getD .skip)).seq ((headSeq 7 (Ybad.f4.body.getD .skip)).seq (dropSeq 8 (Ybad.f4.body.getD .skip))))))))) := by kernel_rfl

set_option maxRecDepth 100000 in
set_option maxHeartbeats 4000000 in
theorem alt_long (w : World) (a0 : Option Addr) (len0 cap0 : Nat) (a1 : Option Addr) (len1 cap1 : Nat) (a4 : Option Addr) (len4 cap4 : Nat) (p2 p3 seed : Nat) (neg nc : Bool) (hl : ¬ (len0 ≤ 256 ∧ len1 ≤ 256 ∧ len4 ≤ 1024)) :
    Calls Ybad.prog 4 #[.slice a0 len0 cap0, .slice a1 len1 cap1, .int .u8 p2, .int .u8 p3, .slice a4 len4 cap4, .bool nc, .bool neg, .int .u64 seed] w fun e w' => e = .returned (.bool true) ∧ Below w.heap.size w w' := by
  by_cases h0 : (256 : Int) < (len0 : Int)
  · clear hl
    go_enter Ybad.func4, Ybad.ntmps4
    go_wp2_with fail
    go_ret
    exact ⟨rfl, Below.refl _ _⟩
  have e0 : decide (256 < (len0 : Int)) = false := by simpa using h0
  by_cases h1 : (256 : Int) < (len1 : Int)
  · clear hl
    go_enter Ybad.func4, Ybad.ntmps4
    go_wp2_with fail
    go_ret
    exact ⟨rfl, Below.refl _ _⟩
  have e1 : decide (256 < (len1 : Int)) = false := by simpa using h1
  have h4 : (1024 : Int) < (len4 : Int) := by
    rcases Nat.lt_or_ge 1024 len4 with h | h
    · omega
    · exact absurd ⟨by omega, by omega, h⟩ hl
  clear hl
  go_enter Ybad.func4, Ybad.ntmps4
  go_wp2_with fail
  go_ret
  exact ⟨rfl, Below.refl _ _⟩

set_option maxRecDepth 100000 in
set_option maxHeartbeats 4000000 in
theorem alt_law (w : World) (a0 : Option Addr) (b0 o0 len0 cap0 : Nat) (a1 : Option Addr) (b1 o1 len1 cap1 : Nat) (a4 : Option Addr) (b4 o4 len4 cap4 : Nat) (p2 p3 seed : Nat) (neg nc : Bool) (zp zq z4 : Nat → Nat)
    (hV : FullVar w) (h1l : 1 < w.heap.size) (hp2 : p2 < 256) (hp3 : p3 < 256) (hsd : seed < 18446744073709551616) (hI0 : (0 < len0 → a0 = some ⟨b0, o0, none⟩ ∧ b0 < w.heap.size) ∧ (∀ j, j < len0 → w.cell? ⟨b0, o0 + j, none⟩ = some (.int .u16 (zp j))) ∧ (∀ j, zp j < 65536)) (hI1 : (0 < len1 → a1 = some ⟨b1, o1, none⟩ ∧ b1 < w.heap.size) ∧ (∀ j, j < len1 → w.cell? ⟨b1, o1 + j, none⟩ = some (.int .u16 (zq j))) ∧ (∀ j, zq j < 65536)) (hI4 : (0 < len4 → a4 = some ⟨b4, o4, none⟩ ∧ b4 < w.heap.size) ∧ (∀ j, j < len4 → w.cell? ⟨b4, o4 + j, none⟩ = some (.int .u8 (z4 j))) ∧ (∀ j, z4 j < 256)) :
    Calls Ybad.prog 4 #[.slice a0 len0 cap0, .slice a1 len1 cap1, .int .u8 p2, .int .u8 p3, .slice a4 len4 cap4, .bool nc, .bool neg, .int .u64 seed] w fun e w' => e = .returned (.bool true) ∧ Below w.heap.size w w' := by
  by_cases hl : len0 ≤ 256 ∧ len1 ≤ 256 ∧ len4 ≤ 1024
  · obtain ⟨hl0, hl1, hl4⟩ := hl
    have H0 : Hid (((0 < len0 → a0 = some ⟨b0, o0, none⟩ ∧ b0 < w.heap.size) ∧ (∀ j, j < len0 → w.cell? ⟨b0, o0 + j, none⟩ = some (.int .u16 (zp j))) ∧ (∀ j, zp j < 65536)) ∧ ((0 < len1 → a1 = some ⟨b1, o1, none⟩ ∧ b1 < w.heap.size) ∧ (∀ j, j < len1 → w.cell? ⟨b1, o1 + j, none⟩ = some (.int .u16 (zq j))) ∧ (∀ j, zq j < 65536)) ∧ ((0 < len4 → a4 = some ⟨b4, o4, none⟩ ∧ b4 < w.heap.size) ∧ (∀ j, j < len4 → w.cell? ⟨b4, o4 + j, none⟩ = some (.int .u8 (z4 j))) ∧ (∀ j, z4 j < 256)) ∧ FullVar w ∧ 1 < w.heap.size) := ⟨hI0, hI1, hI4, hV, h1l⟩
    clear hI0 hI1 hI4 hV h1l
    obtain ⟨ml, HML⟩ : ∃ ml, Hid (p2 % 4 + 1 = ml) := ⟨_, rfl⟩
    obtain ⟨cnt, HCN⟩ : ∃ cnt, Hid (p3 % 3 + 1 = cnt) := ⟨_, rfl⟩
    have hml : (p2 : Int) % 4 + 1 = (ml : Int) := by rw [← HML.out]; omega
    have hcn : (p3 : Int) % 3 + 1 = (cnt : Int) := by rw [← HCN.out]; omega
    have bml : 0 < ml ∧ ml ≤ 4 := by rw [← HML.out]; omega
    have bcn : 0 < cnt ∧ cnt ≤ 3 := by rw [← HCN.out]; omega
    have e0 : decide (256 < (len0 : Int)) = false := by simp; omega
    have e1 : decide (256 < (len1 : Int)) = false := by simp; omega
    have e2 : decide (1024 < (len4 : Int)) = false := by simp; omega
    have f0 : ¬ (256 < (len0 : Int)) := by omega
    have f1 : ¬ (256 < (len1 : Int)) := by omega
    have f2 : ¬ (1024 < (len4 : Int)) := by omega
    go_enter Ybad.func4, Ybad.ntmps4
    refine (show Code.wp Ybad.prog (Ybad.f4.body.getD .skip) _ _ _ from ?_)
    rw [altRest0]
    conv => arg 2; arg 1; whnf
    go_wp2_with fail
    conv => arg 2; whnf
    go_wp2_with fail
    conv => arg 2; whnf
    go_wp2_with fail
    conv => arg 2; whnf
    go_wp2_with fail
    conv => arg 2; whnf
    go_wp2_with fail
    conv => arg 2; whnf
    go_wp2_with fail
    conv => arg 2; whnf
    go_wp2_with fail
    conv => arg 2; whnf
    go_wp2_with fail
    obtain ⟨I0, I1, I4, hV, h1l⟩ := H0.out
    have K : Kept [] w (w.alloc (.cells #[.int .i64 len0, .slice none 0 0, .bool neg, .bool nc] 49)) := (Kept.refl _ _).alloc _
    have up : ∀ b, b < w.heap.size → b < (w.alloc (.cells #[.int .i64 len0, .slice none 0 0, .bool neg, .bool nc] 49)).heap.size := fun b hb => Nat.lt_of_lt_of_le hb K.size
    exact alt_mem (fun w' => Below w.heap.size w w') _ a0 b0 o0 len0 cap0 a1 b1 o1 len1 cap1 a4 b4 o4 len4 cap4 w.heap.size cnt ml neg nc zp zq z4 seed
      (fun w' h => (K.below w.heap.size (Nat.le_refl _) (by simp)).trans (h.below w.heap.size K.size (by simp))) hsd hl0 hl1 hl4 bml bcn
      ⟨fun h => ⟨(I0.1 h).1, up _ (I0.1 h).2, by have := (I0.1 h).2; omega⟩, fun j hj => (K.cell (p := ⟨b0, o0 + j, none⟩) (I0.1 (by omega)).2 (by simp)).trans (I0.2.1 j hj), I0.2.2⟩
      ⟨fun h => ⟨(I1.1 h).1, up _ (I1.1 h).2, by have := (I1.1 h).2; omega⟩, fun j hj => (K.cell (p := ⟨b1, o1 + j, none⟩) (I1.1 (by omega)).2 (by simp)).trans (I1.2.1 j hj), I1.2.2⟩
      ⟨fun h => ⟨(I4.1 h).1, up _ (I4.1 h).2, by have := (I4.1 h).2; omega⟩, fun j hj => (K.cell (p := ⟨b4, o4 + j, none⟩) (I4.1 (by omega)).2 (by simp)).trans (I4.2.1 j hj), I4.2.2⟩
      (hV.kept K h1l (by simp)) (up 1 h1l) (by omega) (heap_alloc_new w _)
      _ _ _ _ _ _ _ _ _ _ _ _ _ _ _ _ _ _ _ _ _ _ _ _ _ _ _ _ _ _ _ _ _ _ _ _ _ _ _ _ _ _ _ _ _ _ _ _ _ _ _ _ _ _ _ _ _ _ _ _ _ _ _ _ _ _ _ _ _ _ _ _ _ _ _ _ _ _ _ _ _ _ _ _ _ _ _ _ _ _ _ _ _ _ _ _ _ _ _ _ _ _ _ _ _ _ _ _ _ _ _ _ _ _ _ _ _ _ _ _ _ _ _ _ _ _ _ _ _ _ _ _ _ _ _ _ _ _ _ _ _ _ _ _ _ _ _ _ _ _ _ _ _ _ _ _ _ _ _ _ _ _ _ _ _ _ _ _ _ _ _ _ _ _ _ _ _ _ _ _ _ _ _ _ _ _ _ _ _ _ _ _ _ _ _ _ _ _ _ _ _ _ _ _ _ _ _ _ _ _ _ _ _ _ _ _ _ _ _ _ _ _ _ _ _ _ _ _ _ _ _ _ _ _ _ _ _ _ _ _ _ _ _ _ _ _ _ _ _ _ _ _ _ _ _ _ _ _ _ _ _ _ _ _ _ _ _ _ _ _ _ _ _ _ _ _ _ _ _ _ _ _ _ _ _
  · exact alt_long w a0 len0 cap0 a1 len1 cap1 a4 len4 cap4 p2 p3 seed neg nc hl
end Go.Proofs.YbulkoqcDoor
