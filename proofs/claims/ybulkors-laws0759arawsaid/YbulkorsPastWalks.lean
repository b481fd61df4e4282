/- The walks of lineBreak, continuation, pastContinuations and the model: each computes the plain law. Own work over this translation. -/
import Derived.Test.YbulkorsRows
import Derived.Test.YbulkorsPast
import Derived.WalkLawsBesides
namespace Go.Proofs.Ybulkors
open Go.RowKit
set_option linter.unusedVariables false

theorem ret_int {k : IntKind} {a b : Int} (h : a = b) : Ending.returned (.int k a) = .returned (.int k b) := by rw [h]
theorem ret_bool {a b : Bool} (h : a = b) : Ending.returned (.bool a) = .returned (.bool b) := by rw [h]

set_option maxHeartbeats 400000 in
theorem hasPrefix_any (s p : ByteArray) (w : World) (hs : s.size ≤ 1024) (hp : p.size ≤ 2) :
    Calls Yba.prog 20 #[.string s, .string p] w fun e w' => e = .returned (.bool (Lib.hasPrefix s.data.toList p.data.toList)) ∧ w' = w := by
  have hr := Lib.hasPrefix_raw s p
  have HR : Hid ((decide (p.size ≤ s.size) && ((s.extract 0 p.size).toList == p.toList)) = Lib.hasPrefix s.data.toList p.data.toList) := hr
  clear hr
  by_cases h : p.size ≤ s.size
  · go_enter Yba.func20, Yba.ntmps20
    go_wp2
    go_ret
    exact ⟨ret_bool (by rw [← HR.out]; simp [h]), rfl⟩
  · go_enter Yba.func20, Yba.ntmps20
    go_wp2
    go_ret
    exact ⟨ret_bool (by rw [← HR.out]; simp [h]), rfl⟩

set_option maxHeartbeats 400000 in
theorem lineBreak_any (s : ByteArray) (w : World) (hs : s.size ≤ 1024) :
    Calls Yba.prog 18 #[.string s] w fun e w' => e = .returned (.int .i64 (brk s 0)) ∧ w' = w := by
  by_cases h1 : byteAt s 0 = 10
  · have e1 : Lib.hasPrefix s.data.toList (ByteArray.mk #[10]).data.toList = true := by rw [show (ByteArray.mk #[10]).data.toList = [10] from rfl, lf_first, decide_eq_true h1]
    have hb : brk s 0 = 1 := by unfold brk; rw [if_pos h1]
    rw [hb]
    go_enter Yba.func18, Yba.ntmps18
    go_wp2_with fail
    refine (hasPrefix_any s (ByteArray.mk #[10]) _ hs (by decide)).mono ?_
    rintro e w' ⟨rfl, rfl⟩
    rw [e1]
    go_wp2_with fail
    go_ret
    exact ⟨rfl, rfl⟩
  · have e1 : Lib.hasPrefix s.data.toList (ByteArray.mk #[10]).data.toList = false := by rw [show (ByteArray.mk #[10]).data.toList = [10] from rfl, lf_first, decide_eq_false h1]
    by_cases h2 : byteAt s 0 = 13 ∧ byteAt s 1 = 10
    · have e2 : Lib.hasPrefix s.data.toList (ByteArray.mk #[13, 10]).data.toList = true := by rw [show (ByteArray.mk #[13, 10]).data.toList = [13, 10] from rfl, crlf_first, decide_eq_true h2]
      have hb : brk s 0 = 2 := by unfold brk; rw [if_neg h1, if_pos h2]
      rw [hb]
      clear h1 h2 hb
      go_enter Yba.func18, Yba.ntmps18
      go_wp2_with fail
      refine (hasPrefix_any s (ByteArray.mk #[10]) _ hs (by decide)).mono ?_
      rintro e w' ⟨rfl, rfl⟩
      rw [e1]
      go_wp2_with fail
      refine (hasPrefix_any s (ByteArray.mk #[13, 10]) _ hs (by decide)).mono ?_
      rintro e w' ⟨rfl, rfl⟩
      rw [e2]
      go_wp2_with fail
      go_ret
      exact ⟨rfl, rfl⟩
    · have e2 : Lib.hasPrefix s.data.toList (ByteArray.mk #[13, 10]).data.toList = false := by rw [show (ByteArray.mk #[13, 10]).data.toList = [13, 10] from rfl, crlf_first, decide_eq_false h2]
      have hb : brk s 0 = 0 := by unfold brk; rw [if_neg h1, if_neg h2]
      rw [hb]
      clear h1 h2 hb
      go_enter Yba.func18, Yba.ntmps18
      go_wp2_with fail
      refine (hasPrefix_any s (ByteArray.mk #[10]) _ hs (by decide)).mono ?_
      rintro e w' ⟨rfl, rfl⟩
      rw [e1]
      go_wp2_with fail
      refine (hasPrefix_any s (ByteArray.mk #[13, 10]) _ hs (by decide)).mono ?_
      rintro e w' ⟨rfl, rfl⟩
      rw [e2]
      go_wp2_with fail
      go_ret
      exact ⟨rfl, rfl⟩
theorem toList_isEmpty (s : ByteArray) : s.toList.isEmpty = decide (s.size = 0) := by
  rw [Lib.toList_data, Lib.size_eq]
  cases s.data.toList <;> rfl

set_option maxHeartbeats 400000 in
theorem continuation_any (s : ByteArray) (w : World) (hs : s.size ≤ 1024) :
    Calls Yba.prog 13 #[.string s] w fun e w' => e = .returned (.int .i64 (stp s 0)) ∧ w' = w := by
  by_cases h0 : s.size = 0
  · have he : s.toList.isEmpty = true := by rw [toList_isEmpty]; exact decide_eq_true h0
    have hb : stp s 0 = 0 := by unfold stp; rw [byteAt_ge (by omega)]; rfl
    rw [hb]
    clear hb h0
    go_enter Yba.func13, Yba.ntmps13
    go_wp2_with fail
    go_ret
    exact ⟨rfl, rfl⟩
  · have he : s.toList.isEmpty = false := by rw [toList_isEmpty]; exact decide_eq_false h0
    have hp : 0 < s.size := by omega
    have hat := byteAt_lt hp
    by_cases h1 : byteAt s 0 = 92
    · have hb : stp s 0 = if 0 < brk s 1 then 1 + brk s 1 else 0 := by unfold stp; rw [if_pos h1]
      have ht : (((s[0]'hp).toNat : Int) != 92) = false := by rw [← hat, h1]; rfl
      obtain ⟨n, hn⟩ : ∃ n, brk s 1 = n := ⟨_, rfl⟩
      have HBR : Hid (brk (s.extract 1 s.size) 0 = n) := by
        show _ = _
        rw [brk_extract s 1 0 (by omega), ← hn]
      have hle := brk_le s 1
      rw [hn] at hle
      rw [hb, hn]
      clear hb h0 h1 hat hn
      by_cases hn : 0 < n
      · rw [if_pos hn]
        go_enter Yba.func13, Yba.ntmps13
        go_wp2_with fail
        refine (lineBreak_any (s.extract 1 s.size) _ (by simp; omega)).mono ?_
        rintro e w' ⟨rfl, rfl⟩
        rw [HBR.out]
        go_wp2_with fail
        go_ret
        exact ⟨ret_int (by omega), rfl⟩
      · rw [if_neg hn]
        have hn' : decide (0 < (n : Int)) = false := by simp; omega
        go_enter Yba.func13, Yba.ntmps13
        go_wp2_with fail
        refine (lineBreak_any (s.extract 1 s.size) _ (by simp; omega)).mono ?_
        rintro e w' ⟨rfl, rfl⟩
        rw [HBR.out]
        go_wp2_with fail
        go_ret
        exact ⟨rfl, rfl⟩
    · have hb : stp s 0 = 0 := by unfold stp; rw [if_neg h1]
      have ht : (((s[0]'hp).toNat : Int) != 92) = true := by rw [bne_iff_ne]; omega
      rw [hb]
      clear hb h0 h1 hat
      go_enter Yba.func13, Yba.ntmps13
      go_wp2_with fail
      go_ret
      exact ⟨rfl, rfl⟩
theorem num_nat {k : IntKind} {a : Int} {b : Nat} (h : a = (b : Int)) : Value.int k a = Value.int k (b : Int) := by rw [h]

set_option maxHeartbeats 400000 in
theorem past_any (s : ByteArray) (b i : Nat) (w : World) (hs : s.size ≤ 1024) (hi : (i : Int) ≤ 9223372036854775807)
    (hc : w.cell? ⟨b, 1, none⟩ = some (.string s)) :
    Calls Yba.prog 7 #[.pointer (some ⟨b, 0, none⟩), .int .i64 i] w fun e w' => e = .returned (.int .i64 (pst s i)) ∧ w' = w := by
  go_enter Yba.func7, Yba.ntmps7
  go_wp2_with fail
  go_loop [1] (fun v => ∃ k : Nat, v = .int .i64 k ∧ Hid (pst s k = pst s i)) (fun v => s.size - (intOf v).toNat)
  case atStart => exact ⟨i, rfl, rfl⟩
  case round =>
    obtain ⟨k, rfl, HP⟩ := hrel
    by_cases h1 : k < s.size
    · have hat := byteAt_lt h1
      have hst : stp (s.extract k s.size) 0 = stp s k := by rw [stp_extract s k 0 (by omega)]; rfl
      have HST : Hid (stp (s.extract k s.size) 0 = stp s k) := hst
      have HAT : Hid (byteAt s k = (s[k]'h1).toNat) := hat
      clear hst hat
      by_cases h92 : byteAt s k = 92
      · have ht : (((s[k]'h1).toNat : Int) == 92) = true := by rw [← HAT.out, h92]; rfl
        have H92 : Hid (byteAt s k = 92) := h92
        clear h92
        obtain ⟨m, hm⟩ : ∃ m, stp s k = m := ⟨_, rfl⟩
        have HM : Hid (stp s k = m) := hm
        have hm3 : m ≤ 3 := by rw [← hm]; exact stp_le s k
        clear hm
        by_cases hz : m = 0
        · have hzb : ((m : Int) == 0) = true := by rw [hz]; rfl
          have HZ : Hid (m = 0) := hz
          clear hz
          go_wp2_with fail
          refine (continuation_any (s.extract k s.size) _ (by simp; omega)).mono ?_
          rintro e w' ⟨rfl, rfl⟩
          rw [HST.out, HM.out]
          go_wp2_with fail
          go_ret
          exact ⟨ret_int (by rw [← HP.out, pst_stop (HM.out.trans HZ.out)]), rfl⟩
        · have hzb : ((m : Int) == 0) = false := by rw [beq_eq_false_iff_ne]; omega
          have hkm : k + m ≤ s.size := by rw [← HM.out]; exact (stp_room (by rw [HM.out]; exact hz)).2
          go_wp2_with fail
          refine (continuation_any (s.extract k s.size) _ (by simp; omega)).mono ?_
          rintro e w' ⟨rfl, rfl⟩
          rw [HST.out, HM.out]
          go_wp2_with fail
          go_round
          case rel => exact ⟨k + m, num_nat (by omega), by show _ = _; rw [← HP.out, ← HM.out, pst_step (by rw [HM.out]; exact hz)]⟩
          case measure => simp [intOf]; omega
      · have ht : (((s[k]'h1).toNat : Int) == 92) = false := by rw [beq_eq_false_iff_ne]; have := HAT.out; omega
        have HZ : Hid (stp s k = 0) := by show _ = _; unfold stp; rw [if_neg h92]
        clear h92
        go_wp2_with fail
        go_ret
        exact ⟨ret_int (by rw [← HP.out, pst_stop HZ.out]), rfl⟩
    · have HZ : Hid (stp s k = 0) := by show _ = _; unfold stp; rw [byteAt_ge (by omega)]; rfl
      go_wp2_with fail
      go_ret
      exact ⟨ret_int (by rw [← HP.out, pst_stop HZ.out]), rfl⟩

/-! ### the model: the ways of its round, in the walk's own forms -/
theorem stp_a {s : ByteArray} {k : Nat} (h : k < s.size) (t : (((s[k]'h).toNat : Int) != 92) = true) : stp s k = 0 := by
  unfold stp
  rw [byteAt_lt h, if_neg (by rw [bne_iff_ne] at t; omega)]
theorem stp_92 {s : ByteArray} {k : Nat} (h : k < s.size) (t : (((s[k]'h).toNat : Int) != 92) = false) : stp s k = if 0 < brk s (k + 1) then 1 + brk s (k + 1) else 0 := by
  unfold stp
  rw [byteAt_lt h, if_pos (by simp at t; omega)]

set_option maxHeartbeats 400000 in
theorem model_any (s : ByteArray) (i : Nat) (w : World) (hs : s.size ≤ 1024) (hi : (i : Int) ≤ 9223372036854775807) :
    Calls Yba.prog 8 #[.string s, .int .i64 i] w fun e w' => e = .returned (.int .i64 (pst s i)) ∧ w' = w := by
  go_enter Yba.func8, Yba.ntmps8
  go_wp2
  go_loop [5] (fun v => ∃ k : Nat, v = .int .i64 k ∧ Hid (pst s k = pst s i)) (fun v => s.size - (intOf v).toNat)
  case atStart => exact ⟨i, rfl, rfl⟩
  case round =>
    obtain ⟨k, rfl, HP⟩ := hrel
    by_cases h1 : k < s.size
    · by_cases h92 : byteAt s k = 92
      · have t0 : (((s[k]'h1).toNat : Int) != 92) = false := by rw [← byteAt_lt h1, h92]; rfl
        have S0 : Hid (stp s k = if 0 < brk s (k + 1) then 1 + brk s (k + 1) else 0) := stp_92 h1 t0
        clear h92
        by_cases h2 : k + 1 < s.size
        · have h2' : (k : Int) + 1 < (s.size : Int) := by omega
          have h2'' : (0 : Int) ≤ (k : Int) + 1 := by omega
          by_cases h10 : byteAt s (k + 1) = 10
          · have t1 : (((s[k + 1]'h2).toNat : Int) == 10) = true := by rw [← byteAt_lt h2, h10]; rfl
            have HB : Hid (stp s k = 2) := by show _ = _; rw [S0.out, brk_of1 h10]; rfl
            clear h10
            go_wp2
            go_round
            case rel => exact ⟨k + 2, num_nat (by omega), by show _ = _; rw [← HP.out]; exact pst_by HB.out (by omega)⟩
            case measure => simp [intOf]; omega
          · have t1 : (((s[k + 1]'h2).toNat : Int) == 10) = false := by rw [beq_eq_false_iff_ne]; have := byteAt_lt h2; omega
            by_cases h3 : k + 2 < s.size
            · have h3' : (k : Int) + 2 < (s.size : Int) := by omega
              have h3'' : (0 : Int) ≤ (k : Int) + 2 := by omega
              by_cases h13 : byteAt s (k + 1) = 13
              · have t2 : (((s[k + 1]'h2).toNat : Int) == 13) = true := by rw [← byteAt_lt h2, h13]; rfl
                by_cases h310 : byteAt s (k + 2) = 10
                · have t3 : (((s[k + 2]'h3).toNat : Int) == 10) = true := by rw [← byteAt_lt h3, h310]; rfl
                  have HB : Hid (stp s k = 3) := by show _ = _; rw [S0.out, brk_of2 h13 h310]; rfl
                  clear h10 h13 h310
                  go_wp2
                  go_round
                  case rel => exact ⟨k + 3, num_nat (by omega), by show _ = _; rw [← HP.out]; exact pst_by HB.out (by omega)⟩
                  case measure => simp [intOf]; omega
                · have t3 : (((s[k + 2]'h3).toNat : Int) == 10) = false := by rw [beq_eq_false_iff_ne]; have := byteAt_lt h3; omega
                  have HB : Hid (stp s k = 0) := by show _ = _; rw [S0.out, brk_of0 h10 (fun h => h310 h.2)]; rfl
                  clear h10 h13 h310
                  go_wp2
                  go_ret
                  exact ⟨ret_int (by rw [← HP.out, pst_stop HB.out]), rfl⟩
              · have t2 : (((s[k + 1]'h2).toNat : Int) == 13) = false := by rw [beq_eq_false_iff_ne]; have := byteAt_lt h2; omega
                have HB : Hid (stp s k = 0) := by show _ = _; rw [S0.out, brk_of0 h10 (fun h => h13 h.1)]; rfl
                clear h10 h13
                go_wp2
                go_ret
                exact ⟨ret_int (by rw [← HP.out, pst_stop HB.out]), rfl⟩
            · have h3' : decide ((k : Int) + 2 < (s.size : Int)) = false := by simp; omega
              have HB : Hid (stp s k = 0) := by
                show _ = _
                rw [S0.out, brk_of0 h10 (fun h => by have := byteAt_ge (s := s) (k := k + 1 + 1) (by omega); omega)]; rfl
              clear h10
              go_wp2
              go_ret
              exact ⟨ret_int (by rw [← HP.out, pst_stop HB.out]), rfl⟩
        · have h2' : decide ((k : Int) + 1 < (s.size : Int)) = false := by simp; omega
          have h3' : decide ((k : Int) + 2 < (s.size : Int)) = false := by simp; omega
          have HB : Hid (stp s k = 0) := by
            show _ = _
            have h256 := byteAt_ge (s := s) (k := k + 1) (by omega)
            rw [S0.out, brk_of0 (by omega) (by omega)]; rfl
          go_wp2
          go_ret
          exact ⟨ret_int (by rw [← HP.out, pst_stop HB.out]), rfl⟩
      · have t0 : (((s[k]'h1).toNat : Int) != 92) = true := by rw [bne_iff_ne]; have := byteAt_lt h1; omega
        have HB : Hid (stp s k = 0) := stp_a h1 t0
        clear h92
        go_wp2
        go_ret
        exact ⟨ret_int (by rw [← HP.out, pst_stop HB.out]), rfl⟩
    · have HZ : Hid (stp s k = 0) := by show _ = _; unfold stp; rw [byteAt_ge (by omega)]; rfl
      go_wp2
      go_ret
      exact ⟨ret_int (by rw [← HP.out, pst_stop HZ.out]), rfl⟩
end Go.Proofs.Ybulkors
