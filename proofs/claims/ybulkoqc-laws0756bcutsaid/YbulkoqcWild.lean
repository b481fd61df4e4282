/- (*formWriter).wildcards: n zero bytes at the end of values and masks. Own work over this program's translation. -/
import Derived.Test.YbulkoqcKept
namespace Go.Proofs.Ybulkoqc
open Go.RowKit
set_option linter.unusedVariables false

theorem Yba.info5 : (Yba.prog.info? 5).map (fun i => (i.zero, i.size, i.bytes)) = some (some (.int .u8 0), 1, 1) := by kernel_rfl

/-- What one run of the loop of 'wildcards' leaves behind k rounds. -/
structure WS (w0 wr : World) (b gv gm n k : Nat) (V M : List Value) : Prop where
  kept : Kept [b, gv, gm] w0 wr
  rest : ∀ o, o ≠ 19 → o ≠ 20 → wr.cell? ⟨b, o, none⟩ = w0.cell? ⟨b, o, none⟩
  frz : ∀ o, wr.frozen? ⟨b, o, none⟩ = false
  rows : ∃ g cap g' cap', wr.cell? ⟨b, 19, none⟩ = some (.slice (some ⟨g, 0, none⟩) (n + k) cap) ∧ wr.cell? ⟨b, 20, none⟩ = some (.slice (some ⟨g', 0, none⟩) (n + k) cap') ∧
    g ≠ b ∧ g' ≠ b ∧ g ≠ g' ∧ (g = gv ∨ w0.heap.size ≤ g) ∧ (g' = gm ∨ w0.heap.size ≤ g') ∧
    wr.ownsRow 0 5 1 (.slice (some ⟨g, 0, none⟩) (n + k) cap) (n + k) (V ++ List.replicate k (.int .u8 0)) ∧
    wr.ownsRow 0 5 1 (.slice (some ⟨g', 0, none⟩) (n + k) cap') (n + k) (M ++ List.replicate k (.int .u8 0))

set_option maxHeartbeats 1000000 in
theorem wild_walk (b gv gm n cv cm wild : Nat) (V M : List Value) (w : World)
    (hb : b < w.heap.size) (hn : n ≤ 1024) (hw : wild ≤ 40)
    (c6 : w.cell? ⟨b, 6, none⟩ = some (.bool false))
    (c19 : w.cell? ⟨b, 19, none⟩ = some (.slice (some ⟨gv, 0, none⟩) n cv))
    (c20 : w.cell? ⟨b, 20, none⟩ = some (.slice (some ⟨gm, 0, none⟩) n cm))
    (hf : ∀ o, w.frozen? ⟨b, o, none⟩ = false)
    (hvb : gv ≠ b) (hmb : gm ≠ b) (hvm : gv ≠ gm)
    (ov : w.ownsRow 0 5 1 (.slice (some ⟨gv, 0, none⟩) n cv) n V) (om : w.ownsRow 0 5 1 (.slice (some ⟨gm, 0, none⟩) n cm) n M) :
    Calls Yba.prog 6 #[.pointer (some ⟨b, 0, none⟩), .int .i64 wild] w fun e w' => e = .returned (.tuple #[]) ∧ WS w w' b gv gm n wild V M := by
  obtain ⟨i0, hi, hz0, hz1, hz2⟩ := info_parts Yba.info5
  have hW : WS w w b gv gm n 0 V M := ⟨Kept.refl _ _, fun _ _ _ => rfl, hf, gv, cv, gm, cm, by simpa using c19, by simpa using c20, hvb, hmb, hvm, .inl rfl, .inl rfl, by simpa using ov, by simpa using om⟩
  clear c19 c20 hf ov om
  go_enter Yba.func6, Yba.ntmps6
  go_wp2
  go_loopw [10] (fun i wr => ∃ k : Nat, k ≤ wild ∧ i = .int .i64 k ∧ WS w wr b gv gm n k V M) (fun i _ => wild - (intOf i).toNat)
  case atStart => exact ⟨0, Nat.zero_le _, rfl, hW⟩
  case round =>
    obtain ⟨k, hk, rfl, hS⟩ := hrel
    by_cases hlt : k < wild
    · obtain ⟨kept, rest, frz, g, cap, g', cap', c19, c20, hgb, hg'b, hgg, hgo, hgo', o1, o2⟩ := hS
      have O1 : Hid (wr.ownsRow 0 5 1 (.slice (some ⟨g, 0, none⟩) (n + k) cap) (n + k) (V ++ List.replicate k (.int .u8 0))) := o1
      have O2 : Hid (wr.ownsRow 0 5 1 (.slice (some ⟨g', 0, none⟩) (n + k) cap') (n + k) (M ++ List.replicate k (.int .u8 0))) := o2
      have R : Hid (∀ o, o ≠ 19 → o ≠ 20 → wr.cell? ⟨b, o, none⟩ = w.cell? ⟨b, o, none⟩) := rest
      have hb' : b < wr.heap.size := Nat.lt_of_lt_of_le hb kept.size
      have KK : Hid (Kept [b, gv, gm] w wr) := kept
      have sk := kept.size
      have hgl : g < wr.heap.size := (o1.lt g rfl).2
      have hgl' : g' < wr.heap.size := (o2.lt g' rfl).2
      clear o1 o2 rest kept
      go_wp2_with (at_builtin; refine wpList_append_lies _ rfl (.tmp 16) (.tmp 17) 32 rfl 0 5 i0 (.int .u8 0) 1 1 Yba.underlying32 hi hz0 hz1 hz2 rfl (by decide) (.slice (some ⟨g, 0, none⟩) (n + k) cap) (n + k) (V ++ List.replicate k (.int .u8 0)) rfl ?own ⟨wr.heap.size, 0, none⟩ 1 1 [.int .u8 0] rfl rfl ?d1 ?d2 (by omega) ?d3 ?d4 ?d5 (wr.heap.size + 1) (by simp) ?_)
      case own => exact O1.out.alloc _
      case d1 => intro j u hj; match j, hj with | 0, hj => simp at hj; subst hj; simp [Addr.add, World.cell?_alloc_at]
      case d2 => intro u hu; simp at hu; subst hu; rfl
      case d3 => unfold maxLen; omega
      case d4 => omega
      case d5 => simp
      intro g1 cap1 w1 p1 gr1 at1 lt1
      have hg1b : g1 ≠ b := by
        rcases at1 with h | h
        · simp [Value.ownBlock] at h; omega
        · omega
      have hg1' : g1 ≠ g' := by
        rcases at1 with h | h
        · simp [Value.ownBlock] at h; omega
        · omega
      have hg1o : g1 = g ∨ g1 = wr.heap.size + 1 := by
        rcases at1 with h | h
        · simp [Value.ownBlock] at h; omega
        · omega
      have hc : ∀ o, w1.cell? ⟨b, o, none⟩ = wr.cell? ⟨b, o, none⟩ := fun o => (gr1.cell_far _ (by simp; omega) (by simp [Value.ownBlock]; omega)).trans (World.cell?_alloc_past _ _ _ hb')
      have hfr : ∀ o, w1.frozen? ⟨b, o, none⟩ = false := fun o => (gr1.frozen_far _ (by simp; omega) (by simp [Value.ownBlock]; omega)).trans (by rw [World.frozen?_alloc_past _ _ _ hb']; exact frz o)
      have s1 : wr.heap.size + 1 ≤ w1.heap.size := by have := gr1.size; simpa using this
      have P1 : Hid (w1.ownsRow 0 5 1 (.slice (some ⟨g1, 0, none⟩) (n + k + 1) cap1) (n + k + 1) (V ++ (List.replicate k (.int .u8 0) ++ [.int .u8 0]))) := p1
      have O2' : Hid (w1.ownsRow 0 5 1 (.slice (some ⟨g', 0, none⟩) (n + k) cap') (n + k) (M ++ List.replicate k (.int .u8 0))) := (O2.out.alloc _).kept gr1 (.inr (by simp [Value.ownBlock]; omega))
      have K1 : Hid (Kept [b, gv, gm] w w1) := (KK.out.alloc _).grown gr1 (fun x hx => by simp [Value.ownBlock] at hx; subst hx; simp only [List.mem_cons, List.not_mem_nil, or_false]; omega)
      clear p1 gr1 at1 O1 O2 KK
      go_wp2_with (at_builtin; refine wpList_append_lies _ rfl (.tmp 25) (.tmp 26) 32 rfl 0 5 i0 (.int .u8 0) 1 1 Yba.underlying32 hi hz0 hz1 hz2 rfl (by decide) (.slice (some ⟨g', 0, none⟩) (n + k) cap') (n + k) (M ++ List.replicate k (.int .u8 0)) rfl ?own ⟨w1.heap.size, 0, none⟩ 1 1 [.int .u8 0] rfl rfl ?d1 ?d2 (by omega) ?d3 ?d4 ?d5 (w1.heap.size + 1) (by simp) ?_)
      case own => exact (ownsRow_setCell_other O2'.out (by simp [Value.ownBlock]; omega) _).alloc _
      case d1 => intro j u hj; match j, hj with | 0, hj => simp at hj; subst hj; simp [Addr.add, World.cell?_alloc_at]
      case d2 => intro u hu; simp at hu; subst hu; rfl
      case d3 => unfold maxLen; omega
      case d4 => omega
      case d5 => simp
      intro g2 cap2 w2 p2 gr2 at2 lt2
      have hg2o : g2 = g' ∨ g2 = w1.heap.size + 1 := by
        rcases at2 with h | h
        · simp [Value.ownBlock] at h; omega
        · omega
      have hb1 : b < w1.heap.size := by omega
      have hc2 : ∀ o, w2.cell? ⟨b, o, none⟩ = (w1.setCell ⟨b, 19, none⟩ (.slice (some ⟨g1, 0, none⟩) (n + k + 1) cap1)).cell? ⟨b, o, none⟩ := fun o => (gr2.cell_far _ (by simp; omega) (by simp [Value.ownBlock]; omega)).trans (World.cell?_alloc_past _ _ _ (by simpa using hb1))
      have hfr2 : ∀ o, w2.frozen? ⟨b, o, none⟩ = false := fun o => (gr2.frozen_far _ (by simp; omega) (by simp [Value.ownBlock]; omega)).trans (by rw [World.frozen?_alloc_past _ _ _ (by simpa using hb1)]; simpa using hfr o)
      have P1' : Hid (w2.ownsRow 0 5 1 (.slice (some ⟨g1, 0, none⟩) (n + k + 1) cap1) (n + k + 1) (V ++ (List.replicate k (.int .u8 0) ++ [.int .u8 0]))) := ((ownsRow_setCell_other P1.out (by simp [Value.ownBlock]; omega) _).alloc _).kept gr2 (.inr (by simp [Value.ownBlock]; omega))
      have P2 : Hid (w2.ownsRow 0 5 1 (.slice (some ⟨g2, 0, none⟩) (n + k + 1) cap2) (n + k + 1) (M ++ (List.replicate k (.int .u8 0) ++ [.int .u8 0]))) := p2
      have K2 : Hid (Kept [b, gv, gm] w w2) := ((K1.out.setCell (p := ⟨b, 19, none⟩) (.inl (by simp)) _).alloc _).grown gr2 (fun x hx => by simp [Value.ownBlock] at hx; subst hx; simp only [List.mem_cons, List.not_mem_nil, or_false]; omega)
      have s2 : w1.heap.size + 1 ≤ w2.heap.size := by have := gr2.size; simpa using this
      have sw := K1.out.size
      have HO1 : Hid ((g1 = gv ∨ w.heap.size ≤ g1) ∧ (g2 = gm ∨ w.heap.size ≤ g2) ∧ g2 ≠ b ∧ g1 ≠ g2) := by
        refine ⟨?_, ?_, ?_, ?_⟩ <;> omega
      clear p2 gr2 at2 P1 O2' K1
      go_wp2
      go_roundw
      case rel => 
        refine ⟨k + 1, by omega, by go_num, ⟨?_, ?_, ?_, g1, cap1, g2, cap2, ?_, ?_, hg1b, HO1.out.2.2.1, HO1.out.2.2.2, HO1.out.1, HO1.out.2.1, ?_, ?_⟩⟩
        · exact K2.out.setCell (p := ⟨b, 20, none⟩) (.inl (by simp)) _
        · intro o h19 h20
          rw [cell_set_ne _ _ _ _ _ (Ne.symm h20), hc2 o, cell_set_ne _ _ _ _ _ (Ne.symm h19), hc o]
          exact R.out o h19 h20
        · intro o; simpa using hfr2 o
        · rw [cell_set_ne _ _ _ _ _ (by omega), hc2 19, cell_set_same _ _ _ _ (.slice (some ⟨g, 0, none⟩) (n + k) cap) (by rw [hc 19]; exact c19)]
          rfl
        · rw [cell_set_same _ _ _ _ (.slice (some ⟨g', 0, none⟩) (n + k) cap') (by rw [hc2 20, cell_set_ne _ _ _ _ _ (by omega), hc 20]; exact c20)]
          rfl
        · rw [List.replicate_succ']
          exact ownsRow_setCell_other P1'.out (by simp [Value.ownBlock]; omega) _
        · rw [List.replicate_succ']
          exact ownsRow_setCell_other P2.out (by simp [Value.ownBlock]; have := HO1.out; omega) _
      case measure => simp [intOf]; omega
    · go_wp2
      go_end0
      obtain rfl : k = wild := by omega
      exact ⟨rfl, hS⟩
end Go.Proofs.Ybulkoqc
