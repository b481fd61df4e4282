/- LawS0756AAlt: the row and the card. Own work over this program's translation. -/
import Derived.Test.YbulkoqcDoorAltLaw
import Derived.Test.YbulkoqcDoorShapes
import Derived.Test.YbulkoqcDoorTie
import Derived.Test.YbulkoqcDoorCards
import Derived.WalkKit
import Derived.ProofKit
import Derived.OpenShut
import Derived.ShutString
import Derived.ChangeOld
import Derived.Below
namespace Go.Proofs.YbulkoqcDoor.lawS0756AAlt
open Go.ChangeShapes Go.WideShapes Go.ChangeAt Go.RowKit
set_option linter.unusedVariables false

set_option maxRecDepth 100000 in
theorem lifted (os : Os) (started : os.Started) (H : Type) (enc : TypeId × Value → H) :
    ReturnsInHanded {} Ybad.checked os 4 .any (fun w args => (Rows.lawS0756AAltSpec.pre enc Ybad.prog Ybad.f4 [] false w args ∧ laidMetH Ybad.prog laid1 w) ∧ sizedMet enc Ybad.prog Ybad.f4 (OpenSpec.ofChange Rows.lawS0756AAltSpec) false w args)
      (Rows.lawS0756AAltSpec.post enc Ybad.prog Ybad.f4 false true false false) := by
  refine returnsInHanded_of_change_and (C := Ybad.checked) (X := fun w _ => laidMetH Ybad.prog laid1 w) (fun _ _ _ hh h => h.of_heap hh) own started (by kernel_rfl) Ybad.func4
    (ChangeSpec.witness_shaped (enc := enc) (C := Ybad.checked) (os := os) (X := fun w _ => laidMetH Ybad.prog laid1 w) false (World.doorLaid Ybad.prog 24 os) #[.slice none 0 0, .slice none 0 0, .int .u8 0, .int .u8 0, .slice none 0 0, .bool false, .bool false, .int .u64 0] 8 rfl (World.shaped_of_RefB (by kernel_rfl) (by kernel_rfl)) (by kernel_rfl) (by kernel_rfl) (by kernel_rfl) (door_met os _)) ?_
  intro W base args ds gs before hval0 hW _ _ hL _
  have hval : ∀ (j : Nat) t v, Ybad.f4.params[j]? = some t → args[j]? = some v → Value.okWide Ybad.prog W .any base t v := hval0
  have hW' := hW
  obtain ⟨p, q, hA0, hV, rfl, hfz, hnd⟩ := hW
  have hA : DataW.TrodAll enc Ybad.prog W 0 (fun _ => true) true Ybad.f4.params.toList args.toList ds p := hA0
  have hV1 : DataW.TrodVars enc Ybad.prog W (fun _ => true) [fsName] gs q := hV
  rw [Ybad.params4] at hA hval
  obtain ⟨v0, vs0, d0, ds0, p0, q0, hargs, rfl, rfl, h0, r0⟩ := trodAll_cons hA
  obtain ⟨v1, vs1, d1, ds1, p1, q1, rfl, rfl, rfl, h1, r1⟩ := trodAll_cons r0
  obtain ⟨v2, vs2, d2, ds2, p2, q2, rfl, rfl, rfl, h2, r2⟩ := trodAll_cons r1
  obtain ⟨v3, vs3, d3, ds3, p3, q3, rfl, rfl, rfl, h3, r3⟩ := trodAll_cons r2
  obtain ⟨v4, vs4, d4, ds4, p4, q4, rfl, rfl, rfl, h4, r4⟩ := trodAll_cons r3
  obtain ⟨v5, vs5, d5, ds5, p5, q5, rfl, rfl, rfl, h5, r5⟩ := trodAll_cons r4
  obtain ⟨v6, vs6, d6, ds6, p6, q6, rfl, rfl, rfl, h6, r6⟩ := trodAll_cons r5
  obtain ⟨v7, vs7, d7, ds7, p7, q7, rfl, rfl, rfl, h7, r7⟩ := trodAll_cons r6
  obtain ⟨rfl, rfl, rfl⟩ := trodAll_nil r7
  obtain rfl : args = #[v0, v1, v2, v3, v4, v5, v6, v7] := by cases args; simp_all
  obtain ⟨g, t, cs, fuel', gd, gp, rfl, _⟩ := trodVars_one hV1
  obtain ⟨a0, len0, cap0, rfl⟩ := okWide_slice Ybad.underlying24 (hval 0 24 v0 rfl rfl)
  obtain ⟨a1, len1, cap1, rfl⟩ := okWide_slice Ybad.underlying24 (hval 1 24 v1 rfl rfl)
  obtain ⟨n2, rfl, rfl, rfl, w2⟩ := open_int Ybad.underlying5 (hval 2 5 v2 rfl rfl) h2
  obtain ⟨n3, rfl, rfl, rfl, w3⟩ := open_int Ybad.underlying5 (hval 3 5 v3 rfl rfl) h3
  obtain ⟨a4, len4, cap4, rfl⟩ := okWide_slice Ybad.underlying23 (hval 4 23 v4 rfl rfl)
  obtain ⟨nc, rfl, rfl, rfl⟩ := open_bool Ybad.underlying4 (hval 5 4 v5 rfl rfl) h5
  obtain ⟨neg, rfl, rfl, rfl⟩ := open_bool Ybad.underlying4 (hval 6 4 v6 rfl rfl) h6
  obtain ⟨n7, rfl, rfl, rfl, w7⟩ := open_int Ybad.underlying36 (hval 7 36 v7 rfl rfl) h7
  have k0 := h0
  have lt0 : ∀ x ∈ p0, x.block < W.heap.size := by obtain ⟨m, hm⟩ := k0; exact DataW.trod_lt m _ _ _ hm
  have k1 := h1
  have lt1 : ∀ x ∈ p1, x.block < W.heap.size := by obtain ⟨m, hm⟩ := k1; exact DataW.trod_lt m _ _ _ hm
  have k4 := h4
  have lt4 : ∀ x ∈ p4, x.block < W.heap.size := by obtain ⟨m, hm⟩ := k4; exact DataW.trod_lt m _ _ _ hm
  obtain ⟨b0, o0, zp, hI0⟩ := open_shape (N := 65536) (by omega) kind16 Ybad.underlying24 Ybad.underlying72 (by kernel_rfl) h0
  obtain ⟨b1, o1, zq, hI1⟩ := open_shape (N := 65536) (by omega) kind16 Ybad.underlying24 Ybad.underlying72 (by kernel_rfl) h1
  obtain ⟨b4, o4, z4, hI4⟩ := open_shape (N := 256) (by omega) kind8 Ybad.underlying23 Ybad.underlying5 (by kernel_rfl) h4
  have b2 := kind8 n2 w2
  have b3 := kind8 n3 w3
  have b7 := bounds_u64 w7
  obtain ⟨p2, rfl⟩ : ∃ p : Nat, n2 = (p : Int) := ⟨n2.toNat, by omega⟩
  obtain ⟨p3, rfl⟩ : ∃ p : Nat, n3 = (p : Int) := ⟨n3.toNat, by omega⟩
  obtain ⟨seed, rfl⟩ : ∃ p : Nat, n7 = (p : Int) := ⟨n7.toNat, by omega⟩
  clear hA0 hval0
  obtain ⟨hF, h1l⟩ := of_laid hL
  refine (alt_law W a0 b0 o0 len0 cap0 a1 b1 o1 len1 cap1 a4 b4 o4 len4 cap4 p2 p3 seed neg nc zp zq z4 hF h1l (by omega) (by omega) (by omega) hI0 hI1 hI4).mono fun e W' ⟨he, bel⟩ => ?_
  subst he
  exact ⟨_, rfl, _, _, _, [], _, q, hW', trodAll_mk1 (shut_bool Ybad.underlying4 _), (trodAll_cons_mk (Below.trod laidOut (by kernel_rfl) (of_decide_eq_true (by kernel_rfl)) k0 bel lt0) (trodAll_cons_mk (Below.trod laidOut (by kernel_rfl) (of_decide_eq_true (by kernel_rfl)) k1 bel lt1) (trodAll_cons_mk (shut_int Ybad.underlying5 w2) (trodAll_cons_mk (shut_int Ybad.underlying5 w3) (trodAll_cons_mk (Below.trod laidOut (by kernel_rfl) (of_decide_eq_true (by kernel_rfl)) k4 bel lt4) (trodAll_cons_mk (shut_bool Ybad.underlying4 _) (trodAll_cons_mk (shut_bool Ybad.underlying4 _) (trodAll_cons_mk (shut_int Ybad.underlying36 w7) trodAll_mk0)))))))), Below.trodVars laidOut bel varsOk hV1, bel.frame _, fun h => by cases h⟩

theorem over : Rows.LawS0756AAltSaid :=
  OpenClaim.holds_of_wide 4 Ybad.f4 rfl rfl rfl rfl rfl rfl rfl ⟨rfl, rfl, rfl, rfl, rfl⟩ rfl rfl rfl rfl rfl (by kernel_rfl) Ybad.func4 (by kernel_rfl)
    (of_decide_eq_true (by kernel_rfl)) (by unfold Func.isWrapper; first | (rw [if_pos (by decide +kernel)]; kernel_rfl) | (rw [if_neg (by decide +kernel)]; exact ⟨rfl, rfl⟩))
    (fun os started H enc _ => lifted os started H enc)

/-- THE STATEMENT -/
theorem proved : Rows.LawS0756AAltCardSaid :=
  Claim7.holds_tied_plain_at .later [] [.data] true (true, "4998f2dd1e3f3fc984da371a237accabd310de08781e684eac1050afd3b2caa6") false
    over (fun _ h => by cases h) (by kernel_rfl) (fun _ h => by cases h) lawS0756AAlt_row_tie rfl ⟨rfl, rfl⟩ (by kernel_rfl) rfl
    (fun f fn hf hfn => by
      obtain rfl : f = 4 := Option.some.inj ((show Ybad.prog.funcNamed Rows.lawS0756AAltRow.func = some 4 by kernel_rfl).symm.trans hf) |>.symm
      obtain rfl : fn = Ybad.f4 := (Option.some.inj (Ybad.func4.symm.trans hfn)).symm
      exact ⟨by kernel_rfl, fun j t ht => by
        rw [Ybad.params4] at ht
        have hm : t ∈ [24, 24, 5, 5, 23, 4, 4, 36] := by simpa using Array.mem_of_getElem? ht
        have hall : ([24, 24, 5, 5, 23, 4, 4, 36].all fun u => !Ybad.prog.wantsStandIn u) = true := by kernel_rfl
        exact (show Ybad.prog.wantsStandIn t = false by simpa using List.all_eq_true.1 hall t hm)⟩)
    (by kernel_rfl)
end Go.Proofs.YbulkoqcDoor.lawS0756AAlt
