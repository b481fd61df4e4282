/- The writing arm of (*formWriter).endPart. Own work over this program's translation. -/
import Derived.Test.YbulkoqcWild
import Derived.Test.YbulkoqcCutPart
namespace Go.Proofs.Ybulkoqc
open Go.RowKit
set_option linter.unusedVariables false

theorem cut_any (b gv gm N cv cm f : Nat) (aa : Option Addr) (ml ca : Nat) (w : World)
    (hb : b < w.heap.size) (hN : N ≤ 2000) (hfN : f ≤ N) (hNv : N ≤ cv) (hNm : N ≤ cm)
    (c16 : w.cell? ⟨b, 16, none⟩ = some (.slice none 0 0))
    (c19 : w.cell? ⟨b, 19, none⟩ = some (.slice (some ⟨gv, 0, none⟩) N cv))
    (c20 : w.cell? ⟨b, 20, none⟩ = some (.slice (some ⟨gm, 0, none⟩) N cm))
    (c21 : w.cell? ⟨b, 21, none⟩ = some (.int .i64 f))
    (c22 : w.cell? ⟨b, 22, none⟩ = some (.slice aa ml ca))
    (hf : ∀ o, w.frozen? ⟨b, o, none⟩ = false) :
    Calls Yba.prog 7 #[.pointer (some ⟨b, 0, none⟩)] w fun e w' => e = .returned (.tuple #[]) ∧
      ∃ ov, (f < N → ov = f) ∧ CutPost w w' b N (.slice (some ⟨gv, ov, none⟩) (N - f) (N - f)) (.slice (some ⟨gm, ov, none⟩) (N - f) (N - f)) (.slice aa ml ca) := by
  by_cases h : f < N
  · exact (cut_some b gv gm N cv cm f aa ml ca w hb hN h hNv hNm c16 c19 c20 c21 c22 hf).mono fun e w' ⟨he, hp⟩ => ⟨he, f, fun _ => rfl, hp⟩
  · obtain rfl : f = N := by omega
    exact (cut_end b gv gm f cv cm aa ml ca w hb hN hNv hNm c16 c19 c20 c21 c22 hf).mono fun e w' ⟨he, hp⟩ => ⟨he, 0, fun h => by omega, by rw [Nat.sub_self]; exact hp⟩

/-- What endPart leaves where it writes. -/
structure EndPost (w w' : World) (b gv gm n wild f : Nat) (k : Int) (V M : List Value) (av : Value) : Prop where
  kept : Kept [b, gv, gm] w w'
  c9 : w'.cell? ⟨b, 9, none⟩ = w.cell? ⟨b, 9, none⟩
  c10 : w'.cell? ⟨b, 10, none⟩ = some (.int .i64 (k + 1))
  c11 : w'.cell? ⟨b, 11, none⟩ = some (.int .i64 0)
  c12 : w'.cell? ⟨b, 12, none⟩ = some (.bool false)
  c13 : w'.cell? ⟨b, 13, none⟩ = some (.int .i64 0)
  c14 : w'.cell? ⟨b, 14, none⟩ = some (.int .i64 0)
  c15 : w'.cell? ⟨b, 15, none⟩ = some (.int .i64 0)
  c17 : w'.cell? ⟨b, 17, none⟩ = w.cell? ⟨b, 17, none⟩
  c21 : w'.cell? ⟨b, 21, none⟩ = some (.int .i64 ((n + wild : Nat) : Int))
  c22 : w'.cell? ⟨b, 22, none⟩ = some (.slice none 0 0)
  rows : ∃ g cap g1 cap1 g2 cap2 ov, (f < n + wild → ov = f) ∧ w'.cell? ⟨b, 16, none⟩ = some (.slice (some ⟨g, 0, none⟩) 1 cap) ∧
    w'.cell? ⟨b, 19, none⟩ = some (.slice (some ⟨g1, 0, none⟩) (n + wild) cap1) ∧ w'.cell? ⟨b, 20, none⟩ = some (.slice (some ⟨g2, 0, none⟩) (n + wild) cap2) ∧
    w'.cell? ⟨g, 0, none⟩ = some (.slice (some ⟨g1, ov, none⟩) (n + wild - f) (n + wild - f)) ∧ w'.cell? ⟨g, 1, none⟩ = some (.slice (some ⟨g2, ov, none⟩) (n + wild - f) (n + wild - f)) ∧ w'.cell? ⟨g, 2, none⟩ = some av ∧
    w'.ownsRow 0 5 1 (.slice (some ⟨g1, 0, none⟩) (n + wild) cap1) (n + wild) (V ++ List.replicate wild (.int .u8 0)) ∧
    w'.ownsRow 0 5 1 (.slice (some ⟨g2, 0, none⟩) (n + wild) cap2) (n + wild) (M ++ List.replicate wild (.int .u8 0))

set_option maxHeartbeats 1000000 in
theorem endPart_cut (b gv gm n cv cm f wild : Nat) (k span runs inRuns : Int) (other : Bool) (V M : List Value) (aa : Option Addr) (ml ca : Nat) (w : World)
    (hb : b < w.heap.size) (hn : n ≤ 1024) (hw : wild ≤ 40) (hfn : f ≤ n) (hk0 : 0 ≤ k) (hk1 : k ≤ 65535) (hs0 : 0 ≤ span) (hs1 : span ≤ 5000)
    (c6 : w.cell? ⟨b, 6, none⟩ = some (.bool false))
    (c10 : w.cell? ⟨b, 10, none⟩ = some (.int .i64 k)) (c11 : w.cell? ⟨b, 11, none⟩ = some (.int .i64 span)) (c12 : w.cell? ⟨b, 12, none⟩ = some (.bool other))
    (c13 : w.cell? ⟨b, 13, none⟩ = some (.int .i64 wild)) (c14 : w.cell? ⟨b, 14, none⟩ = some (.int .i64 runs)) (c15 : w.cell? ⟨b, 15, none⟩ = some (.int .i64 inRuns))
    (c16 : w.cell? ⟨b, 16, none⟩ = some (.slice none 0 0))
    (c19 : w.cell? ⟨b, 19, none⟩ = some (.slice (some ⟨gv, 0, none⟩) n cv))
    (c20 : w.cell? ⟨b, 20, none⟩ = some (.slice (some ⟨gm, 0, none⟩) n cm))
    (c21 : w.cell? ⟨b, 21, none⟩ = some (.int .i64 f))
    (c22 : w.cell? ⟨b, 22, none⟩ = some (.slice aa ml ca))
    (hf : ∀ o, w.frozen? ⟨b, o, none⟩ = false)
    (hvb : gv ≠ b) (hmb : gm ≠ b) (hvm : gv ≠ gm)
    (ov : w.ownsRow 0 5 1 (.slice (some ⟨gv, 0, none⟩) n cv) n V) (om : w.ownsRow 0 5 1 (.slice (some ⟨gm, 0, none⟩) n cm) n M) :
    Calls Yba.prog 5 #[.pointer (some ⟨b, 0, none⟩)] w fun e w' => e = .returned (.tuple #[]) ∧ EndPost w w' b gv gm n wild f k V M (.slice aa ml ca) := by
  have OV : Hid (w.ownsRow 0 5 1 (.slice (some ⟨gv, 0, none⟩) n cv) n V) := ov
  have OM : Hid (w.ownsRow 0 5 1 (.slice (some ⟨gm, 0, none⟩) n cm) n M) := om
  clear ov om
  go_enter Yba.func5, Yba.ntmps5
  go_wp2_with fail
  refine (wild_walk b gv gm n cv cm wild V M _ (by simpa using hb) hn hw (by simp [c6, World.cell?_setCell_other]) ?w19 ?w20 ?wf hvb hmb hvm ?wo ?wm).mono ?_
  case w19 => go_simp
  case w20 => go_simp
  case wf => intro o; simpa using hf o
  case wo => exact ownsRow_setCell_other (ownsRow_setCell_other OV.out (by simp [Value.ownBlock]; omega) _) (by simp [Value.ownBlock]; omega) _
  case wm => exact ownsRow_setCell_other (ownsRow_setCell_other OM.out (by simp [Value.ownBlock]; omega) _) (by simp [Value.ownBlock]; omega) _
  rintro e w1 ⟨rfl, hW⟩
  obtain ⟨kept, rest, frz, g1, cap1, g2, cap2, d19, d20, hg1b, hg2b, hg12, hgo1, hgo2, o1, o2⟩ := hW
  have O1 : Hid (w1.ownsRow 0 5 1 (.slice (some ⟨g1, 0, none⟩) (n + wild) cap1) (n + wild) (V ++ List.replicate wild (.int .u8 0))) := o1
  have O2 : Hid (w1.ownsRow 0 5 1 (.slice (some ⟨g2, 0, none⟩) (n + wild) cap2) (n + wild) (M ++ List.replicate wild (.int .u8 0))) := o2
  have hN1 : n + wild ≤ cap1 := by
    rcases o1.2 with ⟨h, _⟩ | ⟨_, _, _, h, _, _, hh, _⟩
    · cases h
    · simp at h; omega
  have hN2 : n + wild ≤ cap2 := by
    rcases o2.2 with ⟨h, _⟩ | ⟨_, _, _, h, _, _, hh, _⟩
    · cases h
    · simp at h; omega
  have K1 : Hid (Kept [b, gv, gm] w w1) := ((((Kept.refl [b, gv, gm] w).setCell (p := ⟨b, 11, none⟩) (.inl (by simp)) _).setCell (p := ⟨b, 13, none⟩) (.inl (by simp)) _).trans kept (fun x hx => .inl hx))
  have hb1 : b < w1.heap.size := Nat.lt_of_lt_of_le hb K1.out.size
  have hgl1 : g1 < w1.heap.size := (o1.lt g1 rfl).2
  have hgl2 : g2 < w1.heap.size := (o2.lt g2 rfl).2
  have R : ∀ o, o ≠ 19 → o ≠ 20 → o ≠ 11 → o ≠ 13 → w1.cell? ⟨b, o, none⟩ = w.cell? ⟨b, o, none⟩ := by
    intro o h1 h2 h3 h4
    rw [rest o h1 h2, cell_set_ne _ _ _ _ _ (Ne.symm h4), cell_set_ne _ _ _ _ _ (Ne.symm h3)]
  have d16 : w1.cell? ⟨b, 16, none⟩ = some (.slice none 0 0) := by rw [R 16 (by omega) (by omega) (by omega) (by omega)]; exact c16
  have d21 : w1.cell? ⟨b, 21, none⟩ = some (.int .i64 f) := by rw [R 21 (by omega) (by omega) (by omega) (by omega)]; exact c21
  have d22 : w1.cell? ⟨b, 22, none⟩ = some (.slice aa ml ca) := by rw [R 22 (by omega) (by omega) (by omega) (by omega)]; exact c22
  have d10 : w1.cell? ⟨b, 10, none⟩ = some (.int .i64 k) := by rw [R 10 (by omega) (by omega) (by omega) (by omega)]; exact c10
  have d12 : w1.cell? ⟨b, 12, none⟩ = some (.bool other) := by rw [R 12 (by omega) (by omega) (by omega) (by omega)]; exact c12
  have d14 : w1.cell? ⟨b, 14, none⟩ = some (.int .i64 runs) := by rw [R 14 (by omega) (by omega) (by omega) (by omega)]; exact c14
  have d15 : w1.cell? ⟨b, 15, none⟩ = some (.int .i64 inRuns) := by rw [R 15 (by omega) (by omega) (by omega) (by omega)]; exact c15
  have d11 : w1.cell? ⟨b, 11, none⟩ = some (.int .i64 (span + wild)) := by
    rw [rest 11 (by omega) (by omega), cell_set_ne _ _ _ _ _ (by omega)]
    exact cell_set_same _ _ _ _ _ c11
  have d13 : w1.cell? ⟨b, 13, none⟩ = some (.int .i64 0) := by
    rw [rest 13 (by omega) (by omega)]
    exact cell_set_same _ _ _ _ (.int .i64 wild) (by rw [cell_set_ne _ _ _ _ _ (by omega)]; exact c13)
  have R9 : Hid (w1.cell? ⟨b, 9, none⟩ = w.cell? ⟨b, 9, none⟩ ∧ w1.cell? ⟨b, 17, none⟩ = w.cell? ⟨b, 17, none⟩) := ⟨R 9 (by omega) (by omega) (by omega) (by omega), R 17 (by omega) (by omega) (by omega) (by omega)⟩
  clear kept rest o1 o2 R OV OM c6 c10 c11 c12 c13 c14 c15 c16 c19 c20 c21 c22
  go_wp2_with fail
  refine (cut_any b g1 g2 (n + wild) cap1 cap2 f aa ml ca _ hb1 (by omega) (by omega) hN1 hN2 d16 d19 d20 d21 d22 frz).mono ?_
  rintro e w2 ⟨rfl, ov, hov, hC⟩
  obtain ⟨kept2, rest2, frz2, e21, e22, g, cap, hg, e16, eg0, eg1, eg2⟩ := hC
  have e10 : w2.cell? ⟨b, 10, none⟩ = some (.int .i64 k) := by rw [rest2 10 (by omega) (by omega) (by omega)]; exact d10
  have e11 : w2.cell? ⟨b, 11, none⟩ = some (.int .i64 (span + wild)) := by rw [rest2 11 (by omega) (by omega) (by omega)]; exact d11
  have e12 : w2.cell? ⟨b, 12, none⟩ = some (.bool other) := by rw [rest2 12 (by omega) (by omega) (by omega)]; exact d12
  have e13 : w2.cell? ⟨b, 13, none⟩ = some (.int .i64 0) := by rw [rest2 13 (by omega) (by omega) (by omega)]; exact d13
  have e14 : w2.cell? ⟨b, 14, none⟩ = some (.int .i64 runs) := by rw [rest2 14 (by omega) (by omega) (by omega)]; exact d14
  have e15 : w2.cell? ⟨b, 15, none⟩ = some (.int .i64 inRuns) := by rw [rest2 15 (by omega) (by omega) (by omega)]; exact d15
  have e19 : w2.cell? ⟨b, 19, none⟩ = some (.slice (some ⟨g1, 0, none⟩) (n + wild) cap1) := by rw [rest2 19 (by omega) (by omega) (by omega)]; exact d19
  have e20 : w2.cell? ⟨b, 20, none⟩ = some (.slice (some ⟨g2, 0, none⟩) (n + wild) cap2) := by rw [rest2 20 (by omega) (by omega) (by omega)]; exact d20
  have E9 : Hid (w2.cell? ⟨b, 9, none⟩ = w.cell? ⟨b, 9, none⟩ ∧ w2.cell? ⟨b, 17, none⟩ = w.cell? ⟨b, 17, none⟩) := ⟨(rest2 9 (by omega) (by omega) (by omega)).trans R9.out.1, (rest2 17 (by omega) (by omega) (by omega)).trans R9.out.2⟩
  have P1 : Hid (w2.ownsRow 0 5 1 (.slice (some ⟨g1, 0, none⟩) (n + wild) cap1) (n + wild) (V ++ List.replicate wild (.int .u8 0))) := kept2.owns O1.out (fun x hx => by simp [Value.ownBlock] at hx; subst hx; simpa using hg1b)
  have P2 : Hid (w2.ownsRow 0 5 1 (.slice (some ⟨g2, 0, none⟩) (n + wild) cap2) (n + wild) (M ++ List.replicate wild (.int .u8 0))) := kept2.owns O2.out (fun x hx => by simp [Value.ownBlock] at hx; subst hx; simpa using hg2b)
  have K2 : Hid (Kept [b, gv, gm] w w2) := K1.out.trans kept2 (fun x hx => .inl (by simp at hx; subst hx; simp))
  have G : Hid (w2.cell? ⟨g, 0, none⟩ = some (.slice (some ⟨g1, ov, none⟩) (n + wild - f) (n + wild - f)) ∧ w2.cell? ⟨g, 1, none⟩ = some (.slice (some ⟨g2, ov, none⟩) (n + wild - f) (n + wild - f)) ∧ w2.cell? ⟨g, 2, none⟩ = some (.slice aa ml ca)) := ⟨eg0, eg1, eg2⟩
  have HOV : Hid (f < n + wild → ov = f) := hov
  have hgb : g ≠ b := by omega
  clear rest2 kept2 eg0 eg1 eg2 hov d10 d11 d12 d13 d14 d15 d16 d19 d20 d21 d22 R9 O1 O2 K1
  go_wp2
  go_end0
  refine ⟨rfl, ?_⟩
  have S : ∀ o, o ≠ 10 → o ≠ 11 → o ≠ 12 → o ≠ 14 → o ≠ 15 → (((((w2.setCell ⟨b, 10, none⟩ (.int .i64 (k + 1))).setCell ⟨b, 11, none⟩ (.int .i64 0)).setCell ⟨b, 12, none⟩ (.bool false)).setCell ⟨b, 14, none⟩ (.int .i64 0)).setCell ⟨b, 15, none⟩ (.int .i64 0)).cell? ⟨b, o, none⟩ = w2.cell? ⟨b, o, none⟩ := by
    intro o h1 h2 h3 h4 h5
    rw [cell_set_ne _ _ _ _ _ (Ne.symm h5), cell_set_ne _ _ _ _ _ (Ne.symm h4), cell_set_ne _ _ _ _ _ (Ne.symm h3), cell_set_ne _ _ _ _ _ (Ne.symm h2), cell_set_ne _ _ _ _ _ (Ne.symm h1)]
  have F : ∀ o, (((((w2.setCell ⟨b, 10, none⟩ (.int .i64 (k + 1))).setCell ⟨b, 11, none⟩ (.int .i64 0)).setCell ⟨b, 12, none⟩ (.bool false)).setCell ⟨b, 14, none⟩ (.int .i64 0)).setCell ⟨b, 15, none⟩ (.int .i64 0)).cell? ⟨g, o, none⟩ = w2.cell? ⟨g, o, none⟩ := by
    intro o
    have q : ∀ (x : World) (o1 : Nat) (v : Value), (x.setCell ⟨b, o1, none⟩ v).cell? ⟨g, o, none⟩ = x.cell? ⟨g, o, none⟩ := fun x o1 v => World.cell?_setCell_other _ _ _ _ (fun e => hgb (congrArg Addr.block e).symm)
    rw [q, q, q, q, q]
  obtain ⟨eg0, eg1, eg2⟩ := G.out
  refine ⟨?_, ?_, ?_, ?_, ?_, ?_, ?_, ?_, ?_, ?_, ?_, g, cap, g1, cap1, g2, cap2, ov, HOV.out, ?_, ?_, ?_, ?_, ?_, ?_, ?_, ?_⟩
  · exact ((((K2.out.setCell (p := ⟨b, 10, none⟩) (.inl (by simp)) _).setCell (p := ⟨b, 11, none⟩) (.inl (by simp)) _).setCell (p := ⟨b, 12, none⟩) (.inl (by simp)) _).setCell (p := ⟨b, 14, none⟩) (.inl (by simp)) _).setCell (p := ⟨b, 15, none⟩) (.inl (by simp)) _
  · rw [S 9 (by omega) (by omega) (by omega) (by omega) (by omega)]; exact E9.out.1
  · rw [cell_set_ne _ _ _ _ _ (by omega), cell_set_ne _ _ _ _ _ (by omega), cell_set_ne _ _ _ _ _ (by omega), cell_set_ne _ _ _ _ _ (by omega)]
    exact cell_set_same _ _ _ _ _ e10
  · rw [cell_set_ne _ _ _ _ _ (by omega), cell_set_ne _ _ _ _ _ (by omega), cell_set_ne _ _ _ _ _ (by omega)]
    exact cell_set_same _ _ _ _ (.int .i64 (span + wild)) (by rw [cell_set_ne _ _ _ _ _ (by omega)]; exact e11)
  · rw [cell_set_ne _ _ _ _ _ (by omega), cell_set_ne _ _ _ _ _ (by omega)]
    exact cell_set_same _ _ _ _ (.bool other) (by rw [cell_set_ne _ _ _ _ _ (by omega), cell_set_ne _ _ _ _ _ (by omega)]; exact e12)
  · rw [S 13 (by omega) (by omega) (by omega) (by omega) (by omega)]; exact e13
  · rw [cell_set_ne _ _ _ _ _ (by omega)]
    exact cell_set_same _ _ _ _ (.int .i64 runs) (by rw [cell_set_ne _ _ _ _ _ (by omega), cell_set_ne _ _ _ _ _ (by omega), cell_set_ne _ _ _ _ _ (by omega)]; exact e14)
  · exact cell_set_same _ _ _ _ (.int .i64 inRuns) (by rw [cell_set_ne _ _ _ _ _ (by omega), cell_set_ne _ _ _ _ _ (by omega), cell_set_ne _ _ _ _ _ (by omega), cell_set_ne _ _ _ _ _ (by omega)]; exact e15)
  · rw [S 17 (by omega) (by omega) (by omega) (by omega) (by omega)]; exact E9.out.2
  · rw [S 21 (by omega) (by omega) (by omega) (by omega) (by omega)]; exact e21
  · rw [S 22 (by omega) (by omega) (by omega) (by omega) (by omega)]; exact e22
  · rw [S 16 (by omega) (by omega) (by omega) (by omega) (by omega)]; exact e16
  · rw [S 19 (by omega) (by omega) (by omega) (by omega) (by omega)]; exact e19
  · rw [S 20 (by omega) (by omega) (by omega) (by omega) (by omega)]; exact e20
  · rw [F]; exact eg0
  · rw [F]; exact eg1
  · rw [F]; exact eg2
  · iterate 5 (refine ownsRow_setCell_other ?_ (by simp [Value.ownBlock]; omega) _)
    exact P1.out
  · iterate 5 (refine ownsRow_setCell_other ?_ (by simp [Value.ownBlock]; omega) _)
    exact P2.out

end Go.Proofs.Ybulkoqc
