/- The counting arm of (*formWriter).endPart: what it leaves in the writer. Own work over this program's translation. -/
import Derived.Test.YbulkoqcRows
import Derived.WalkKit
import Derived.Deep.AppendLies
namespace Go.Proofs.Ybulkoqc
open Go.RowKit
set_option linter.unusedVariables false

theorem Yba.info4 : (Yba.prog.info? 4).map (fun i => (i.zero, i.size, i.bytes)) = some (some (.bool false), 1, 1) := by kernel_rfl

/-- The fields of the writer at block b (type 35: 23 cells) that the counting walk reads. -/
structure CW (w : World) (b : Nat) (parts bytes k span wild runs inRuns : Int) (other : Bool) (dv : Value) : Prop where
  c6 : w.cell? ⟨b, 6, none⟩ = some (.bool true)
  c7 : w.cell? ⟨b, 7, none⟩ = some (.int .i64 parts)
  c8 : w.cell? ⟨b, 8, none⟩ = some (.int .i64 bytes)
  c9 : w.cell? ⟨b, 9, none⟩ = some dv
  c10 : w.cell? ⟨b, 10, none⟩ = some (.int .i64 k)
  c11 : w.cell? ⟨b, 11, none⟩ = some (.int .i64 span)
  c12 : w.cell? ⟨b, 12, none⟩ = some (.bool other)
  c13 : w.cell? ⟨b, 13, none⟩ = some (.int .i64 wild)
  c14 : w.cell? ⟨b, 14, none⟩ = some (.int .i64 runs)
  c15 : w.cell? ⟨b, 15, none⟩ = some (.int .i64 inRuns)
  c16 : w.cell? ⟨b, 16, none⟩ = some (.slice none 0 0)
  c19 : w.cell? ⟨b, 19, none⟩ = some (.slice none 0 0)

set_option maxHeartbeats 1000000 in
theorem endPart_yes (b : Nat) (parts bytes k span wild runs inRuns : Int) (other : Bool) (g n cap : Nat) (xs : List Value) (w : World)
    (hb : b < w.heap.size) (hn : n ≤ 1024)
    (h0 : -1099511627776 ≤ parts) (h1 : parts ≤ 1099511627776) (h2 : -1099511627776 ≤ bytes) (h3 : bytes ≤ 1099511627776)
    (h4 : 0 ≤ span) (h5 : span ≤ 5000) (h6 : 0 ≤ wild) (h7 : wild ≤ 64) (h8 : 0 ≤ runs) (h9 : runs ≤ 65535) (h10 : 0 ≤ inRuns) (h11 : inRuns ≤ 65535)
    (hcw : CW w b parts bytes k span wild runs inRuns other (.slice (some ⟨g, 0, none⟩) n cap))
    (hdiv : 4096 < span + wild)
    (hf : ∀ o, w.frozen? ⟨b, o, none⟩ = false)
    (B : Nat) (hbase : B ≤ b) (hgb : g ≠ b)
    (hown : w.ownsRow B 4 1 (.slice (some ⟨g, 0, none⟩) n cap) n xs) :
    Calls Yba.prog 5 #[.pointer (some ⟨b, 0, none⟩)] w fun e w' => e = .returned (.tuple #[]) ∧
      ∃ g' cap', CW w' b (parts + runs + 1) (bytes + (span + wild) - inRuns) k 0 0 0 0 false (.slice (some ⟨g', 0, none⟩) (n + 1) cap') ∧
        w'.ownsRow B 4 1 (.slice (some ⟨g', 0, none⟩) (n + 1) cap') (n + 1) (xs ++ [.bool true]) ∧ Below B w w' := by
  obtain ⟨i0, hi, hz0, hz1, hz2⟩ := info_parts Yba.info4
  obtain ⟨c6, c7, c8, c9, c10, c11, c12, c13, c14, c15, c16, c19⟩ := hcw
  have Hown : Hid (w.ownsRow B 4 1 (.slice (some ⟨g, 0, none⟩) n cap) n xs) := hown
  have hgl : g < w.heap.size := (hown.lt g rfl).2
  have hBg : B ≤ g := (hown.lt g rfl).1
  clear hown
  have hd : decide (4096 < span + wild) = true := by simp; omega
  go_enter Yba.func5, Yba.ntmps5
  go_wp2_with (at_builtin; refine wpList_append_lies _ rfl (.tmp 33) (.tmp 35) 23 rfl B 4 i0 (.bool false) 1 1 Yba.underlying23 hi hz0 hz1 hz2 rfl (by decide) (.slice (some ⟨g, 0, none⟩) n cap) n xs rfl ?own ⟨w.heap.size, 0, none⟩ 1 1 [.bool true] rfl rfl ?c1 ?c2 (by omega) ?c3 ?c4 ?c5 (w.heap.size + 1) (by simp) ?_)
  case own => exact (ownsRow_setCell_other (ownsRow_setCell_other Hown.out (by simp [Value.ownBlock]; omega) _) (by simp [Value.ownBlock]; omega) _).alloc _
  case c1 => intro j u hj; match j, hj with | 0, hj => simp at hj; subst hj; simp [Addr.add, World.cell?_alloc_at]
  case c2 => intro u hu; simp at hu; subst hu; rfl
  case c3 => unfold maxLen; omega
  case c4 => omega
  case c5 => simp; omega
  intro g' cap' w1 hown1 hgrow hat hlt
  have hg'b : g' ≠ b := by
    rcases hat with h | h
    · simp [Value.ownBlock] at h; omega
    · omega
  have hc : ∀ o, w1.cell? ⟨b, o, none⟩ = (((w.setCell ⟨b, 11, none⟩ (.int .i64 (span + wild))).setCell ⟨b, 13, none⟩ (.int .i64 0)).alloc (.cells #[.bool true] 4)).cell? ⟨b, o, none⟩ := fun o => hgrow.cell_far _ (by simp; omega) (by simp [Value.ownBlock]; omega)
  have hfr : ∀ o, w1.frozen? ⟨b, o, none⟩ = false := fun o => (hgrow.frozen_far _ (by simp; omega) (by simp [Value.ownBlock]; omega)).trans (by simp [hf, World.frozen?_alloc_past, hb])
  have hB1 : Hid (Below B w w1) := (((((Below.refl B w).setCell (p := ⟨b, 11, none⟩) hbase _).setCell (p := ⟨b, 13, none⟩) hbase _).alloc (by simp; omega) _).grown hgrow (by simp; omega) (fun k h => by simp [Value.ownBlock] at h; omega))
  have Hown1 : Hid (w1.ownsRow B 4 1 (.slice (some ⟨g', 0, none⟩) (n + 1) cap') (n + 1) (xs ++ [.bool true])) := hown1
  clear hown1 hgrow hat
  go_wp2
  go_big_region
  all_goals go_wp2
  all_goals go_end0
  refine ⟨rfl, g', cap', ?_, ?_, ?_⟩
  · refine ⟨?_, ?_, ?_, ?_, ?_, ?_, ?_, ?_, ?_, ?_, ?_, ?_⟩
    all_goals (go_simp; done)
  · refine World.ownsRow.drew ?_
    iterate 7 (refine ownsRow_setCell_other ?_ (by simp [Value.ownBlock]; omega) _)
    exact Hown1.out
  · refine Below.drew ?_
    iterate 7 (refine Below.setCell ?_ (by exact hbase) _)
    exact hB1.out

set_option maxHeartbeats 1000000 in
theorem endPart_no (b : Nat) (parts bytes k span wild runs inRuns : Int) (other : Bool) (g n cap : Nat) (xs : List Value) (w : World)
    (hb : b < w.heap.size) (hn : n ≤ 1024)
    (h0 : -1099511627776 ≤ parts) (h1 : parts ≤ 1099511627776) (h2 : -1099511627776 ≤ bytes) (h3 : bytes ≤ 1099511627776)
    (h4 : 0 ≤ span) (h5 : span ≤ 5000) (h6 : 0 ≤ wild) (h7 : wild ≤ 64) (h8 : 0 ≤ runs) (h9 : runs ≤ 65535) (h10 : 0 ≤ inRuns) (h11 : inRuns ≤ 65535)
    (hcw : CW w b parts bytes k span wild runs inRuns other (.slice (some ⟨g, 0, none⟩) n cap))
    (hdiv : span + wild ≤ 4096)
    (hf : ∀ o, w.frozen? ⟨b, o, none⟩ = false)
    (B : Nat) (hbase : B ≤ b) (hgb : g ≠ b)
    (hown : w.ownsRow B 4 1 (.slice (some ⟨g, 0, none⟩) n cap) n xs) :
    Calls Yba.prog 5 #[.pointer (some ⟨b, 0, none⟩)] w fun e w' => e = .returned (.tuple #[]) ∧
      ∃ g' cap', CW w' b (parts + 1) (bytes + (span + wild)) k 0 0 0 0 false (.slice (some ⟨g', 0, none⟩) (n + 1) cap') ∧
        w'.ownsRow B 4 1 (.slice (some ⟨g', 0, none⟩) (n + 1) cap') (n + 1) (xs ++ [.bool false]) ∧ Below B w w' := by
  obtain ⟨i0, hi, hz0, hz1, hz2⟩ := info_parts Yba.info4
  obtain ⟨c6, c7, c8, c9, c10, c11, c12, c13, c14, c15, c16, c19⟩ := hcw
  have Hown : Hid (w.ownsRow B 4 1 (.slice (some ⟨g, 0, none⟩) n cap) n xs) := hown
  have hgl : g < w.heap.size := (hown.lt g rfl).2
  have hBg : B ≤ g := (hown.lt g rfl).1
  clear hown
  have hd : decide (4096 < span + wild) = false := by simp; omega
  go_enter Yba.func5, Yba.ntmps5
  go_wp2_with (at_builtin; refine wpList_append_lies _ rfl (.tmp 33) (.tmp 35) 23 rfl B 4 i0 (.bool false) 1 1 Yba.underlying23 hi hz0 hz1 hz2 rfl (by decide) (.slice (some ⟨g, 0, none⟩) n cap) n xs rfl ?own ⟨w.heap.size, 0, none⟩ 1 1 [.bool false] rfl rfl ?c1 ?c2 (by omega) ?c3 ?c4 ?c5 (w.heap.size + 1) (by simp) ?_)
  case own => exact (ownsRow_setCell_other (ownsRow_setCell_other Hown.out (by simp [Value.ownBlock]; omega) _) (by simp [Value.ownBlock]; omega) _).alloc _
  case c1 => intro j u hj; match j, hj with | 0, hj => simp at hj; subst hj; simp [Addr.add, World.cell?_alloc_at]
  case c2 => intro u hu; simp at hu; subst hu; rfl
  case c3 => unfold maxLen; omega
  case c4 => omega
  case c5 => simp; omega
  intro g' cap' w1 hown1 hgrow hat hlt
  have hg'b : g' ≠ b := by
    rcases hat with h | h
    · simp [Value.ownBlock] at h; omega
    · omega
  have hc : ∀ o, w1.cell? ⟨b, o, none⟩ = (((w.setCell ⟨b, 11, none⟩ (.int .i64 (span + wild))).setCell ⟨b, 13, none⟩ (.int .i64 0)).alloc (.cells #[.bool false] 4)).cell? ⟨b, o, none⟩ := fun o => hgrow.cell_far _ (by simp; omega) (by simp [Value.ownBlock]; omega)
  have hfr : ∀ o, w1.frozen? ⟨b, o, none⟩ = false := fun o => (hgrow.frozen_far _ (by simp; omega) (by simp [Value.ownBlock]; omega)).trans (by simp [hf, World.frozen?_alloc_past, hb])
  have hB1 : Hid (Below B w w1) := (((((Below.refl B w).setCell (p := ⟨b, 11, none⟩) hbase _).setCell (p := ⟨b, 13, none⟩) hbase _).alloc (by simp; omega) _).grown hgrow (by simp; omega) (fun k h => by simp [Value.ownBlock] at h; omega))
  have Hown1 : Hid (w1.ownsRow B 4 1 (.slice (some ⟨g', 0, none⟩) (n + 1) cap') (n + 1) (xs ++ [.bool false])) := hown1
  clear hown1 hgrow hat
  go_wp2
  go_big_region
  all_goals go_wp2
  all_goals go_end0
  refine ⟨rfl, g', cap', ?_, ?_, ?_⟩
  · refine ⟨?_, ?_, ?_, ?_, ?_, ?_, ?_, ?_, ?_, ?_, ?_, ?_⟩
    all_goals (go_simp; done)
  · refine World.ownsRow.drew ?_
    iterate 7 (refine ownsRow_setCell_other ?_ (by simp [Value.ownBlock]; omega) _)
    exact Hown1.out
  · refine Below.drew ?_
    iterate 7 (refine Below.setCell ?_ (by exact hbase) _)
    exact hB1.out

end Go.Proofs.Ybulkoqc
