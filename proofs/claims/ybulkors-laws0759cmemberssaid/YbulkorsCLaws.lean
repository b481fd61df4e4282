/- LawS0759CLen and LawS0759CMembers: the walks of the laws themselves. Own work over this program's translation. -/
import Derived.Test.YbulkorsCBuild
import Derived.Lib.Builder
import Derived.Deep.QuietTactic
import Derived.BigQuiet
namespace Go.Proofs.Ybulkors
open Go.RowKit
set_option linter.unusedVariables false

theorem len_nil (w : World) : Calls Yba.prog 12 #[.pointer none] w fun e w' => e = .returned (.int .i64 0) ∧ w' = w := by
  go_enter Yba.func12, Yba.ntmps12
  go_wp2_with (first | (go_at_call 17; refine (items_nil _).mono ?_; rintro e w' ⟨rfl, rfl⟩) | (go_at_call 11; refine (members_nil _).mono ?_; rintro e w' ⟨rfl, rfl⟩))
  go_ret
  exact ⟨rfl, rfl⟩

theorem len_atom (w : World) (b : Nat) (h6 : w.cell? ⟨b, 6, none⟩ = some (.pointer none)) : Calls Yba.prog 12 #[.pointer (some ⟨b, 0, none⟩)] w fun e w' => e = .returned (.int .i64 0) ∧ w' = w := by
  go_enter Yba.func12, Yba.ntmps12
  go_wp2_with (first | (go_at_call 17; refine (items_atom _ b h6).mono ?_; rintro e w' ⟨rfl, rfl⟩) | (go_at_call 11; refine (members_atom _ b h6).mono ?_; rintro e w' ⟨rfl, rfl⟩))
  go_ret
  exact ⟨rfl, rfl⟩

theorem len_items (w : World) (b c : Nat) (a : Option Addr) (n m : Nat) (hn : n ≤ 1024) (h6 : w.cell? ⟨b, 6, none⟩ = some (.pointer (some ⟨c, 0, none⟩))) (h0 : w.cell? ⟨c, 0, none⟩ = some (.slice a n m)) (h1 : w.cell? ⟨c, 1, none⟩ = some (.pointer none)) :
    Calls Yba.prog 12 #[.pointer (some ⟨b, 0, none⟩)] w fun e w' => e = .returned (.int .i64 n) ∧ w' = w := by
  go_enter Yba.func12, Yba.ntmps12
  go_wp2_with (first | (go_at_call 17; refine (items_some _ b c a n m h6 h0).mono ?_; rintro e w' ⟨rfl, rfl⟩) | (go_at_call 11; refine (members_none _ b c h6 h1).mono ?_; rintro e w' ⟨rfl, rfl⟩))
  go_ret
  exact ⟨by simp, rfl⟩

theorem len_members (w : World) (b c d o : Nat) (a : Option Addr) (n m : Nat) (hn : n ≤ 1024) (h6 : w.cell? ⟨b, 6, none⟩ = some (.pointer (some ⟨c, 0, none⟩))) (h0 : w.cell? ⟨c, 0, none⟩ = some (.slice none 0 0)) (h1 : w.cell? ⟨c, 1, none⟩ = some (.pointer (some ⟨d, o, none⟩))) (h2 : w.cell? ⟨d, o, none⟩ = some (.slice a n m)) :
    Calls Yba.prog 12 #[.pointer (some ⟨b, 0, none⟩)] w fun e w' => e = .returned (.int .i64 n) ∧ w' = w := by
  go_enter Yba.func12, Yba.ntmps12
  go_wp2_with (first | (go_at_call 17; refine (items_some _ b c none 0 0 h6 h0).mono ?_; rintro e w' ⟨rfl, rfl⟩) | (go_at_call 11; refine (members_some _ b c d o a n m h6 h1 h2).mono ?_; rintro e w' ⟨rfl, rfl⟩))
  go_ret
  exact ⟨by simp, rfl⟩

set_option maxRecDepth 100000 in
set_option maxHeartbeats 400000 in
theorem lenLaw (ao : Option Addr) (b0 o0 n cap : Nat) (S : Nat → ByteArray) (s : Int) (w : World) (hn : n ≤ 1024) (hs0 : 0 ≤ s) (hs1 : s ≤ 255)
    (h0 : 0 < n → ao = some ⟨b0, o0, none⟩ ∧ b0 < w.heap.size) (hcell : ∀ j, j < n → w.cell? ⟨b0, o0 + j, none⟩ = some (.string (S j))) :
    Calls Yba.prog 6 #[.slice ao n cap, .int .u8 s] w fun e w' => e = .returned (.bool true) ∧ Below w.heap.size w w' := by
  have H0 : Hid ((0 < n → ao = some ⟨b0, o0, none⟩ ∧ b0 < w.heap.size) ∧ ∀ j, j < n → w.cell? ⟨b0, o0 + j, none⟩ = some (.string (S j))) := ⟨h0, hcell⟩
  clear h0 hcell
  have hd : decide (1024 < (n : Int)) = false := by simp; omega
  have hcase : s % 5 = 0 ∨ s % 5 = 1 ∨ s % 5 = 2 ∨ s % 5 = 3 ∨ s % 5 = 4 := by omega
  rcases hcase with hs | hs | hs | hs | hs
  · go_enter Yba.func6, Yba.ntmps6
    go_wp2_with fail
    refine (build_0 ao n cap s _ hs0 hs1 hs).mono ?_
    rintro e w1 ⟨rfl, hbel⟩
    go_wp2_with fail
    refine (len_nil _).mono ?_
    rintro e w2 ⟨rfl, rfl⟩
    go_wp2_with fail
    go_ret
    exact ⟨rfl, hbel⟩
  · go_enter Yba.func6, Yba.ntmps6
    go_wp2_with fail
    refine (build_1 ao b0 o0 n cap S s _ hn hs0 hs1 hs H0.out.1 H0.out.2).mono ?_
    rintro e w1 ⟨b, rfl, hbel, h6⟩
    go_wp2_with fail
    refine (len_atom _ b h6).mono ?_
    rintro e w2 ⟨rfl, rfl⟩
    go_wp2_with fail
    go_ret
    exact ⟨rfl, hbel⟩
  · go_enter Yba.func6, Yba.ntmps6
    go_wp2_with fail
    refine (build_2 ao b0 o0 n cap S s _ hn hs0 hs1 hs H0.out.1 H0.out.2).mono ?_
    rintro e w1 ⟨b, c, a, m, rfl, hbel, h6, h0, h1⟩
    go_wp2_with fail
    refine (len_items _ b c a n m hn h6 h0 h1).mono ?_
    rintro e w2 ⟨rfl, rfl⟩
    go_wp2_with fail
    go_ret
    exact ⟨by simp, hbel⟩
  · go_enter Yba.func6, Yba.ntmps6
    go_wp2_with fail
    refine (build_3 ao n cap s _ hs0 hs1 hs).mono ?_
    rintro e w1 ⟨b, c, rfl, hbel, h6, h0, h1⟩
    go_wp2_with fail
    refine (len_items _ b c none 0 0 (by omega) h6 h0 h1).mono ?_
    rintro e w2 ⟨rfl, rfl⟩
    go_wp2_with fail
    go_ret
    exact ⟨rfl, hbel⟩
  · go_enter Yba.func6, Yba.ntmps6
    go_wp2_with fail
    refine (build_4 ao b0 o0 n cap S s _ hn hs0 hs1 hs H0.out.1 H0.out.2).mono ?_
    rintro e w1 ⟨b, c, g, m, rfl, hbel, h6, h0, h1, h2, hrow⟩
    clear hrow
    go_wp2_with fail
    refine (len_members _ b c c 2 _ n m hn h6 h0 h1 h2).mono ?_
    rintro e w2 ⟨rfl, rfl⟩
    go_wp2_with fail
    go_ret
    exact ⟨by simp, hbel⟩

theorem cDn {B : Nat} {a w : World} (h : Below B a w) (n : Nat) : Below B a (w.drewN n) := ⟨h.os, h.tape, h.output, h.size, h.block⟩

set_option maxRecDepth 100000 in
set_option maxHeartbeats 1000000 in
theorem membersLaw (ao : Option Addr) (b0 o0 n cap : Nat) (S : Nat → ByteArray) (s : Int) (w : World) (hn : n ≤ 1024) (hs0 : 0 ≤ s) (hs1 : s ≤ 255)
    (h0 : 0 < n → ao = some ⟨b0, o0, none⟩ ∧ b0 < w.heap.size) (hcell : ∀ j, j < n → w.cell? ⟨b0, o0 + j, none⟩ = some (.string (S j))) :
    Calls Yba.prog 5 #[.slice ao n cap, .int .u8 s] w fun e w' => e = .returned (.bool true) ∧ Below w.heap.size w w' := by
  have H0 : Hid ((0 < n → ao = some ⟨b0, o0, none⟩ ∧ b0 < w.heap.size) ∧ ∀ j, j < n → w.cell? ⟨b0, o0 + j, none⟩ = some (.string (S j))) := ⟨h0, hcell⟩
  clear h0 hcell
  have hd : decide (1024 < (n : Int)) = false := by simp; omega
  have q40 : ∀ (w : World) (a : Option Addr) (n c n' c' : Nat), (binOp .eql 40 (.slice a n c) (.slice none n' c')).run Yba.prog w = .ok (.bool a.isNone) w := fun w a n c n' c' => Lib.run_eql_slice_nil w _ _ a n c n' c' Yba.underlying40
  have hcase : s % 5 = 0 ∨ s % 5 = 1 ∨ s % 5 = 2 ∨ s % 5 = 3 ∨ s % 5 = 4 := by omega
  rcases hcase with hs | hs | hs | hs | hs
  · go_enter Yba.func5, Yba.ntmps5
    go_wp2_with fail
    refine (build_0 ao n cap s _ hs0 hs1 hs).mono ?_
    rintro e w1 ⟨rfl, hbel⟩
    go_wp2_with fail
    refine (members_nil _).mono ?_
    rintro e w2 ⟨rfl, rfl⟩
    go_wp2_with fail
    go_ret
    exact ⟨rfl, hbel⟩
  · go_enter Yba.func5, Yba.ntmps5
    go_wp2_with fail
    refine (build_1 ao b0 o0 n cap S s _ hn hs0 hs1 hs H0.out.1 H0.out.2).mono ?_
    rintro e w1 ⟨b, rfl, hbel, h6⟩
    go_wp2_with fail
    refine (members_atom _ b h6).mono ?_
    rintro e w2 ⟨rfl, rfl⟩
    go_wp2_with fail
    go_ret
    exact ⟨rfl, hbel⟩
  · go_enter Yba.func5, Yba.ntmps5
    go_wp2_with fail
    refine (build_2 ao b0 o0 n cap S s _ hn hs0 hs1 hs H0.out.1 H0.out.2).mono ?_
    rintro e w1 ⟨b, c, a, m, rfl, hbel, h6, h0, h1⟩
    go_wp2_with fail
    refine (members_none _ b c h6 h1).mono ?_
    rintro e w2 ⟨rfl, rfl⟩
    go_wp2_with fail
    go_ret
    exact ⟨rfl, hbel⟩
  · go_enter Yba.func5, Yba.ntmps5
    go_wp2_with fail
    refine (build_3 ao n cap s _ hs0 hs1 hs).mono ?_
    rintro e w1 ⟨b, c, rfl, hbel, h6, h0, h1⟩
    go_wp2_with fail
    refine (members_none _ b c h6 h1).mono ?_
    rintro e w2 ⟨rfl, rfl⟩
    go_wp2_with fail
    go_ret
    exact ⟨rfl, hbel⟩
  · go_enter Yba.func5, Yba.ntmps5
    go_wp2_with fail
    refine (build_4 ao b0 o0 n cap S s _ hn hs0 hs1 hs H0.out.1 H0.out.2).mono ?_
    rintro e w1 ⟨b, c, g, m, rfl, hbel, h6, h0, h1, h2, hrow⟩
    have HR : Hid (∀ j, j < n → w1.cell? ⟨g, j * 11, none⟩ = some (.string (S j))) := hrow
    have HB : Hid (Below w.heap.size w w1) := hbel
    clear hrow hbel
    go_wp2_with fail
    refine (members_some _ b c c 2 _ n m h6 h1 h2).mono ?_
    rintro e w2 ⟨rfl, rfl⟩
    go_wp2_with fail
    clear hs
    go_loopw [8] (fun i wr => ∃ j : Nat, j ≤ n ∧ i = .int .i64 j ∧ ∃ q, wr = w2.drewN q) (fun i _ => n - (intOf i).toNat)
    case atStart => exact ⟨0, Nat.zero_le _, rfl, 0, rfl⟩
    case round =>
      obtain ⟨j, hj, rfl, q, rfl⟩ := hrel
      by_cases hjn : j < n
      · obtain ⟨hx, hltb⟩ := H0.out.1 (by omega)
        subst hx
        have r1 := HR.out j hjn
        have r2 : w2.cell? ⟨b0, o0 + j, none⟩ = some (.string (S j)) := (HB.out.cell (p := ⟨b0, o0 + j, none⟩) hltb).trans (H0.out.2 j hjn)
        obtain ⟨i52, hi52, _, _, _⟩ := info_parts Yba.info52
        have hne : ∀ (wx : World) (a : Addr), (binOp .neq 53 (.pointer (some a)) (.pointer (some a))).run Yba.prog wx = .ok (.bool false) wx := fun wx a => Lib.run_neq_ptr_same wx a Yba.underlying53 hi52
        have b1 : (0 : Int) ≤ (j : Int) := by omega
        have b2 : (j : Int) < (n : Int) := by omega
        go_wp2_with fail
        go_quiet (fail)
        go_wp2_with fail
        go_quiet (fail)
        go_wp2_with fail
        go_roundw
        case rel => exact ⟨j + 1, by omega, by go_num, _, rfl⟩
        case measure => simp [intOf]; omega
      · have e3 : decide ((j : Int) < (n : Int)) = false := by simp; omega
        go_wp2_with fail
        go_ret
        exact ⟨rfl, cDn HB.out _⟩

end Go.Proofs.Ybulkors
