/- (*formWriter).cut: one part is made of the bytes from 'from' on. Own work over this program's translation. -/
import Derived.Test.YbulkoqcKept
import Derived.Deep.RegionHeld3
import Derived.Deep.AppendLies
namespace Go.Proofs.Ybulkoqc
open Go.RowKit
set_option linter.unusedVariables false
set_option linter.unusedSimpArgs false

theorem Yba.info42 : (Yba.prog.info? 42).map (fun i => (i.zero, i.size, i.bytes)) = some (some (.agg #[.slice none 0 0, .slice none 0 0, .slice none 0 0]), 3, 72) := by kernel_rfl

/-- What 'cut' leaves: one part; 'from' at the end; no alternates. -/
structure CutPost (w w' : World) (b N : Nat) (sv sm av : Value) : Prop where
  kept : Kept [b] w w'
  rest : ∀ o, o ≠ 16 → o ≠ 21 → o ≠ 22 → w'.cell? ⟨b, o, none⟩ = w.cell? ⟨b, o, none⟩
  frz : ∀ o, w'.frozen? ⟨b, o, none⟩ = false
  c21 : w'.cell? ⟨b, 21, none⟩ = some (.int .i64 N)
  c22 : w'.cell? ⟨b, 22, none⟩ = some (.slice none 0 0)
  row : ∃ g cap, w.heap.size ≤ g ∧ w'.cell? ⟨b, 16, none⟩ = some (.slice (some ⟨g, 0, none⟩) 1 cap) ∧ w'.cell? ⟨g, 0, none⟩ = some sv ∧ w'.cell? ⟨g, 1, none⟩ = some sm ∧ w'.cell? ⟨g, 2, none⟩ = some av

theorem own3 {w : World} {base g cap : Nat} {v0 v1 v2 : Value} (h : w.ownsRow base 42 3 (.slice (some ⟨g, 0, none⟩) 1 cap) 1 [v0, v1, v2]) : base ≤ g ∧ g < w.heap.size ∧ w.cell? ⟨g, 0, none⟩ = some v0 ∧ w.cell? ⟨g, 1, none⟩ = some v1 ∧ w.cell? ⟨g, 2, none⟩ = some v2 := by
  have hl := h.lt g rfl
  rcases h.2 with ⟨h, _⟩ | ⟨g', cap', cur, h', _, hh, h1, h2, h3, h4⟩
  · cases h
  · simp at h'
    obtain ⟨rfl, rfl⟩ := h'
    have e : ∀ o v, [v0, v1, v2][o]? = some v → w.cell? ⟨g, o, none⟩ = some v := fun o v ho => by
      rw [cell_of_row w _ _ _ _ _ hh]
      have hlt : o < 3 := (List.getElem?_eq_some_iff.1 ho).1
      rw [← h4, List.getElem?_take_of_lt (by omega)] at ho
      simpa using ho
    exact ⟨hl.1, hl.2, e 0 v0 rfl, e 1 v1 rfl, e 2 v2 rfl⟩

theorem cutPost_mk (w w5 : World) (b N g cap : Nat) (sv sm av u16 u21 u22 : Value) {o : Obj} (hb : b < w.heap.size)
    (c16 : w.cell? ⟨b, 16, none⟩ = some u16) (c21 : w.cell? ⟨b, 21, none⟩ = some u21) (c22 : w.cell? ⟨b, 22, none⟩ = some u22) (hf : ∀ o, w.frozen? ⟨b, o, none⟩ = false)
    (hown : w5.ownsRow w.heap.size 42 3 (.slice (some ⟨g, 0, none⟩) 1 cap) 1 [sv, sm, av]) (hgrow : (w.drew.alloc o).grownBy w5 (Value.slice none 0 0).ownBlock) :
    CutPost w (((w5.setCell ⟨b, 16, none⟩ (.slice (some ⟨g, 0, none⟩) 1 cap)).setCell ⟨b, 21, none⟩ (.int .i64 N)).setCell ⟨b, 22, none⟩ (.slice none 0 0)) b N sv sm av := by
  obtain ⟨h1, h2, k0, k1, k2⟩ := own3 hown
  have hk : w5.heap[b]? = w.heap[b]? := (hgrow.block b (by simp; omega) (by simp [Value.ownBlock])).trans (Below.heap_alloc w.drew o b hb)
  have hc : ∀ o, w5.cell? ⟨b, o, none⟩ = w.cell? ⟨b, o, none⟩ := fun o => World.cell?_of_block hk
  have hz : ∀ o, w5.frozen? ⟨b, o, none⟩ = false := fun o => by
    have := hf o
    simp only [World.frozen?] at this ⊢
    rw [hk]; exact this
  have far : ∀ o, (((w5.setCell ⟨b, 16, none⟩ (.slice (some ⟨g, 0, none⟩) 1 cap)).setCell ⟨b, 21, none⟩ (.int .i64 N)).setCell ⟨b, 22, none⟩ (.slice none 0 0)).cell? ⟨g, o, none⟩ = w5.cell? ⟨g, o, none⟩ := fun o => by
    rw [World.cell?_setCell_other _ _ _ _ (fun e => by have := congrArg Addr.block e; simp at this; omega), World.cell?_setCell_other _ _ _ _ (fun e => by have := congrArg Addr.block e; simp at this; omega), World.cell?_setCell_other _ _ _ _ (fun e => by have := congrArg Addr.block e; simp at this; omega)]
  refine ⟨?_, ?_, ?_, ?_, ?_, g, cap, h1, ?_, ?_, ?_, ?_⟩
  · exact (((((Kept.refl [b] w).drew.alloc _).grown hgrow (fun k hk => by cases hk)).setCell (p := ⟨b, 16, none⟩) (.inl (by simp)) _).setCell (p := ⟨b, 21, none⟩) (.inl (by simp)) _).setCell (p := ⟨b, 22, none⟩) (.inl (by simp)) _
  · intro o h1 h2 h3
    rw [cell_set_ne _ _ _ _ _ (Ne.symm h3), cell_set_ne _ _ _ _ _ (Ne.symm h2), cell_set_ne _ _ _ _ _ (Ne.symm h1), hc]
  · intro o
    simpa using hz o
  · rw [cell_set_ne _ _ _ _ _ (by omega)]
    exact cell_set_same _ _ _ _ u21 (by rw [cell_set_ne _ _ _ _ _ (by omega), hc]; exact c21)
  · exact cell_set_same _ _ _ _ u22 (by rw [cell_set_ne _ _ _ _ _ (by omega), cell_set_ne _ _ _ _ _ (by omega), hc]; exact c22)
  · rw [cell_set_ne _ _ _ _ _ (by omega), cell_set_ne _ _ _ _ _ (by omega)]
    exact cell_set_same _ _ _ _ u16 (by rw [hc]; exact c16)
  · rw [far]; exact k0
  · rw [far]; exact k1
  · rw [far]; exact k2

set_option maxRecDepth 100000 in
set_option maxHeartbeats 3200000 in
theorem cut_some (b gv gm N cv cm f : Nat) (aa : Option Addr) (ml ca : Nat) (w : World)
    (hb : b < w.heap.size) (hN : N ≤ 2000) (hfN : f < N) (hNv : N ≤ cv) (hNm : N ≤ cm)
    (c16 : w.cell? ⟨b, 16, none⟩ = some (.slice none 0 0))
    (c19 : w.cell? ⟨b, 19, none⟩ = some (.slice (some ⟨gv, 0, none⟩) N cv))
    (c20 : w.cell? ⟨b, 20, none⟩ = some (.slice (some ⟨gm, 0, none⟩) N cm))
    (c21 : w.cell? ⟨b, 21, none⟩ = some (.int .i64 f))
    (c22 : w.cell? ⟨b, 22, none⟩ = some (.slice aa ml ca))
    (hf : ∀ o, w.frozen? ⟨b, o, none⟩ = false) :
    Calls Yba.prog 7 #[.pointer (some ⟨b, 0, none⟩)] w fun e w' => e = .returned (.tuple #[]) ∧ CutPost w w' b N (.slice (some ⟨gv, f, none⟩) (N - f) (N - f)) (.slice (some ⟨gm, f, none⟩) (N - f) (N - f)) (.slice aa ml ca) := by
  have b0 : (0 : Int) ≤ (f : Int) := by omega
  have b1 : (f : Int) ≤ (N : Int) := by omega
  have ne : ¬ N = f := by omega
  have b2 : (N : Int) ≤ (cv : Int) := by omega
  have b3 : (N : Int) ≤ (cm : Int) := by omega
  have b4 : (N : Int) ≤ (N : Int) := by omega
  have fa : ∀ o, (w.alloc o).frozen? ⟨b, 16, none⟩ = false := fun o => by rw [World.frozen?_alloc_past _ _ _ hb]; exact hf 16
  obtain ⟨i42, hi42, hz0, hz1, hz2⟩ := info_parts Yba.info42
  go_enter Yba.func7, Yba.ntmps7
  go_wp2_with fail
  have ka : ∀ o p, (w.drew.alloc o).cell? ⟨b, p, none⟩ = w.cell? ⟨b, p, none⟩ := fun o p => World.cell?_of_block (Below.heap_alloc w.drew o b hb)
  refine wp_region_held_drew (S := fun w' => w'.cell? ⟨b, 19, none⟩ = some (.slice (some ⟨gv, 0, none⟩) N cv) ∧ w'.cell? ⟨b, 20, none⟩ = some (.slice (some ⟨gm, 0, none⟩) N cm) ∧ w'.cell? ⟨b, 21, none⟩ = some (.int .i64 f) ∧ w'.cell? ⟨b, 22, none⟩ = some (.slice aa ml ca)) (by kernel_rfl) ⟨c19, c20, c21, c22⟩ (fun hHeld => ?_)
  refine wpAnyH_take (i := 0) (v := ?_) rfl (by kernel_rfl) (by kernel_rfl) (by kernel_rfl) (fun _ _ _ h => h) (Or.inl ⟨by rfl, ?_⟩) (by assumption) ?_
  rotate_left
  · intro w hSw
    try dsimp only at hSw
    go_simp
    try with_reducible rfl
  try simp only [Act.put, List.setIfInBounds_toArray, List.set_cons_zero, List.set_cons_succ]
  refine wpAnyH_take (i := 1) (v := ?_) rfl (by kernel_rfl) (by kernel_rfl) (by kernel_rfl) (fun _ _ _ h => h) (Or.inl ⟨by rfl, ?_⟩) (by assumption) ?_
  rotate_left
  · intro w hSw
    try dsimp only at hSw
    go_simp
    try with_reducible rfl
  try simp only [Act.put, List.setIfInBounds_toArray, List.set_cons_zero, List.set_cons_succ]
  refine wpAnyH_take (i := 2) (v := ?_) rfl (by kernel_rfl) (by kernel_rfl) (by kernel_rfl) (fun _ _ _ h => h) (Or.inl ⟨by rfl, ?_⟩) (by assumption) ?_
  rotate_left
  · intro w hSw
    try dsimp only at hSw
    go_simp
    try with_reducible rfl
  try simp only [Act.put, List.setIfInBounds_toArray, List.set_cons_zero, List.set_cons_succ]
  refine wpAnyH_take (i := 3) (v := ?_) rfl (by kernel_rfl) (by kernel_rfl) (by kernel_rfl) (fun _ _ _ h => h) (Or.inl ⟨by rfl, ?_⟩) (by assumption) ?_
  rotate_left
  · intro w hSw
    try dsimp only at hSw
    go_simp
    try with_reducible rfl
  try simp only [Act.put, List.setIfInBounds_toArray, List.set_cons_zero, List.set_cons_succ]
  refine wpAnyH_take (i := 4) (v := ?_) rfl (by kernel_rfl) (by kernel_rfl) (by kernel_rfl) (fun _ _ _ h => h) (Or.inl ⟨by rfl, ?_⟩) (by assumption) ?_
  rotate_left
  · intro w hSw
    try dsimp only at hSw
    go_simp
    try with_reducible rfl
  try simp only [Act.put, List.setIfInBounds_toArray, List.set_cons_zero, List.set_cons_succ]
  refine wpAnyH_take (i := 6) (v := ?_) rfl (by kernel_rfl) (by kernel_rfl) (by kernel_rfl) (fun _ _ _ h => h) (Or.inl ⟨by rfl, ?_⟩) (by assumption) ?_
  rotate_left
  · intro w hSw
    try dsimp only at hSw
    go_simp
    try with_reducible rfl
  try simp only [Act.put, List.setIfInBounds_toArray, List.set_cons_zero, List.set_cons_succ]
  refine wpAnyH_take (i := 7) (v := ?_) rfl (by kernel_rfl) (by kernel_rfl) (by kernel_rfl) (fun _ _ _ h => h) (Or.inl ⟨by rfl, ?_⟩) (by assumption) ?_
  rotate_left
  · intro w hSw
    try dsimp only at hSw
    go_simp
    try with_reducible rfl
  try simp only [Act.put, List.setIfInBounds_toArray, List.set_cons_zero, List.set_cons_succ]
  refine wpAnyH_take (i := 8) (v := ?_) rfl (by kernel_rfl) (by kernel_rfl) (by kernel_rfl) (fun _ _ _ h => h) (Or.inl ⟨by rfl, ?_⟩) (by assumption) ?_
  rotate_left
  · intro w hSw
    try dsimp only at hSw
    go_simp
    try with_reducible rfl
  try simp only [Act.put, List.setIfInBounds_toArray, List.set_cons_zero, List.set_cons_succ]
  refine wpAnyH_take (i := 9) (v := ?_) rfl (by kernel_rfl) (by kernel_rfl) (by kernel_rfl) (fun _ _ _ h => h) (Or.inl ⟨by rfl, ?_⟩) (by assumption) ?_
  rotate_left
  · intro w hSw
    try dsimp only at hSw
    go_simp
    try with_reducible rfl
  try simp only [Act.put, List.setIfInBounds_toArray, List.set_cons_zero, List.set_cons_succ]
  refine wpAnyH_take (i := 10) (v := ?_) rfl (by kernel_rfl) (by kernel_rfl) (by kernel_rfl) (fun _ _ _ h => h) (Or.inl ⟨by rfl, ?_⟩) (by assumption) ?_
  rotate_left
  · intro w hSw
    try dsimp only at hSw
    go_simp
    try with_reducible rfl
  try simp only [Act.put, List.setIfInBounds_toArray, List.set_cons_zero, List.set_cons_succ]
  refine wpAnyH_take (i := 11) (v := ?_) rfl (by kernel_rfl) (by kernel_rfl) (by kernel_rfl) (fun _ _ _ h => h) (Or.inl ⟨by rfl, ?_⟩) (by assumption) ?_
  rotate_left
  · intro w hSw
    try dsimp only at hSw
    go_simp
    try with_reducible rfl
  try simp only [Act.put, List.setIfInBounds_toArray, List.set_cons_zero, List.set_cons_succ]
  refine wpAnyH_take (i := 12) (v := ?_) rfl (by kernel_rfl) (by kernel_rfl) (by kernel_rfl) (fun _ _ _ h => h) (Or.inl ⟨by rfl, ?_⟩) (by assumption) ?_
  rotate_left
  · intro w hSw
    try dsimp only at hSw
    go_simp
    try with_reducible rfl
  try simp only [Act.put, List.setIfInBounds_toArray, List.set_cons_zero, List.set_cons_succ]
  refine wpAnyH_take (i := 13) (v := ?_) rfl (by kernel_rfl) (by kernel_rfl) (by kernel_rfl) (fun _ _ _ h => h) (Or.inl ⟨by rfl, ?_⟩) (by assumption) ?_
  rotate_left
  · intro w hSw
    try dsimp only at hSw
    go_simp
    try with_reducible rfl
  try simp only [Act.put, List.setIfInBounds_toArray, List.set_cons_zero, List.set_cons_succ]
  refine wpAnyH_take (i := 14) (v := ?_) rfl (by kernel_rfl) (by kernel_rfl) (by kernel_rfl) (fun _ _ _ h => h) (Or.inl ⟨by rfl, ?_⟩) (by assumption) ?_
  rotate_left
  · intro w hSw
    try dsimp only at hSw
    go_simp
    try with_reducible rfl
  try simp only [Act.put, List.setIfInBounds_toArray, List.set_cons_zero, List.set_cons_succ]
  refine wpAnyH_take (i := 15) (v := ?_) rfl (by kernel_rfl) (by kernel_rfl) (by kernel_rfl) (fun _ _ _ h => h) (Or.inl ⟨by rfl, ?_⟩) (by assumption) ?_
  rotate_left
  · intro w hSw
    try dsimp only at hSw
    go_simp
    try with_reducible rfl
  try simp only [Act.put, List.setIfInBounds_toArray, List.set_cons_zero, List.set_cons_succ]
  refine wpAnyH_take (i := 16) (v := ?_) rfl (by kernel_rfl) (by kernel_rfl) (by kernel_rfl) (fun _ _ _ h => h) (Or.inl ⟨by rfl, ?_⟩) (by assumption) ?_
  rotate_left
  · intro w hSw
    try dsimp only at hSw
    go_simp
    try with_reducible rfl
  try simp only [Act.put, List.setIfInBounds_toArray, List.set_cons_zero, List.set_cons_succ]
  refine wpAnyH_take (i := 17) (v := ?_) rfl (by kernel_rfl) (by kernel_rfl) (by kernel_rfl) (fun _ _ _ h => h) (Or.inl ⟨by rfl, ?_⟩) (by assumption) ?_
  rotate_left
  · intro w hSw
    try dsimp only at hSw
    go_simp
    try with_reducible rfl
  try simp only [Act.put, List.setIfInBounds_toArray, List.set_cons_zero, List.set_cons_succ]
  refine wpAnyH_take (i := 18) (v := ?_) rfl (by kernel_rfl) (by kernel_rfl) (by kernel_rfl) (fun _ _ _ h => h) (Or.inl ⟨by rfl, ?_⟩) (by assumption) ?_
  rotate_left
  · intro w hSw
    try dsimp only at hSw
    go_simp
    try with_reducible rfl
  try simp only [Act.put, List.setIfInBounds_toArray, List.set_cons_zero, List.set_cons_succ]
  refine wpAnyH_take (i := 19) (v := ?_) rfl (by kernel_rfl) (by kernel_rfl) (by kernel_rfl) (fun _ _ _ h => h) (Or.inl ⟨by rfl, ?_⟩) (by assumption) ?_
  rotate_left
  · intro w hSw
    try dsimp only at hSw
    go_simp
    try with_reducible rfl
  try simp only [Act.put, List.setIfInBounds_toArray, List.set_cons_zero, List.set_cons_succ]
  refine wpAnyH_take (i := 20) (v := ?_) rfl (by kernel_rfl) (by kernel_rfl) (by kernel_rfl) (fun _ _ _ h => h) (Or.inl ⟨by rfl, ?_⟩) (by assumption) ?_
  rotate_left
  · intro w hSw
    try dsimp only at hSw
    go_simp
    try with_reducible rfl
  try simp only [Act.put, List.setIfInBounds_toArray, List.set_cons_zero, List.set_cons_succ]
  refine wpAnyH_take (i := 21) (v := ?_) rfl (by kernel_rfl) (by kernel_rfl) (by kernel_rfl) (fun _ _ _ h => h) (Or.inl ⟨by rfl, ?_⟩) (by assumption) ?_
  rotate_left
  · intro w hSw
    try dsimp only at hSw
    go_simp
    try with_reducible rfl
  try simp only [Act.put, List.setIfInBounds_toArray, List.set_cons_zero, List.set_cons_succ]
  refine wpAnyH_take (i := 22) (v := ?_) rfl (by kernel_rfl) (by kernel_rfl) (by kernel_rfl) (fun _ _ _ h => h) (Or.inl ⟨by rfl, ?_⟩) (by assumption) ?_
  rotate_left
  · intro w hSw
    try dsimp only at hSw
    go_simp
    try with_reducible rfl
  try simp only [Act.put, List.setIfInBounds_toArray, List.set_cons_zero, List.set_cons_succ]
  refine wpAnyH_take (i := 23) (v := ?_) rfl (by kernel_rfl) (by kernel_rfl) (by kernel_rfl) (fun _ _ _ h => h) (Or.inl ⟨by rfl, ?_⟩) (by assumption) ?_
  rotate_left
  · intro w hSw
    try dsimp only at hSw
    go_simp
    try with_reducible rfl
  try simp only [Act.put, List.setIfInBounds_toArray, List.set_cons_zero, List.set_cons_succ]
  refine wpAnyH_take (i := 24) (v := ?_) rfl (by kernel_rfl) (by kernel_rfl) (by kernel_rfl) (fun _ _ _ h => h) (Or.inl ⟨by rfl, ?_⟩) (by assumption) ?_
  rotate_left
  · intro w hSw
    try dsimp only at hSw
    go_simp
    try with_reducible rfl
  try simp only [Act.put, List.setIfInBounds_toArray, List.set_cons_zero, List.set_cons_succ]
  refine wpAnyH_take (i := 25) (v := ?_) rfl (by kernel_rfl) (by kernel_rfl) (by kernel_rfl) (fun _ _ _ h => h) (Or.inl ⟨by rfl, ?_⟩) (by assumption) ?_
  rotate_left
  · intro w hSw
    try dsimp only at hSw
    go_simp
    try with_reducible rfl
  try simp only [Act.put, List.setIfInBounds_toArray, List.set_cons_zero, List.set_cons_succ]
  refine wpAnyH_take (i := 26) (v := ?_) rfl (by kernel_rfl) (by kernel_rfl) (by kernel_rfl) (fun _ _ _ h => h) (Or.inl ⟨by rfl, ?_⟩) (by assumption) ?_
  rotate_left
  · intro w hSw
    try dsimp only at hSw
    go_simp
    try with_reducible rfl
  try simp only [Act.put, List.setIfInBounds_toArray, List.set_cons_zero, List.set_cons_succ]
  refine wpAnyH_take (i := 27) (v := ?_) rfl (by kernel_rfl) (by kernel_rfl) (by kernel_rfl) (fun _ _ _ h => h) (Or.inl ⟨by rfl, ?_⟩) (by assumption) ?_
  rotate_left
  · intro w hSw
    try dsimp only at hSw
    go_simp
    try with_reducible rfl
  try simp only [Act.put, List.setIfInBounds_toArray, List.set_cons_zero, List.set_cons_succ]
  refine wpAnyH_take (i := 28) (v := ?_) rfl (by kernel_rfl) (by kernel_rfl) (by kernel_rfl) (fun _ _ _ h => h) (Or.inl ⟨by rfl, ?_⟩) (by assumption) ?_
  rotate_left
  · intro w hSw
    try dsimp only at hSw
    go_simp
    try with_reducible rfl
  try simp only [Act.put, List.setIfInBounds_toArray, List.set_cons_zero, List.set_cons_succ]
  refine wpAnyH_take (i := 29) (v := ?_) rfl (by kernel_rfl) (by kernel_rfl) (by kernel_rfl) (fun _ _ _ h => h) (Or.inl ⟨by rfl, ?_⟩) (by assumption) ?_
  rotate_left
  · intro w hSw
    try dsimp only at hSw
    go_simp
    try with_reducible rfl
  try simp only [Act.put, List.setIfInBounds_toArray, List.set_cons_zero, List.set_cons_succ]
  refine wpAnyH_take (i := 30) (v := ?_) rfl (by kernel_rfl) (by kernel_rfl) (by kernel_rfl) (fun _ _ _ h => h) (Or.inl ⟨by rfl, ?_⟩) (by assumption) ?_
  rotate_left
  · intro w hSw
    try dsimp only at hSw
    go_simp
    try with_reducible rfl
  try simp only [Act.put, List.setIfInBounds_toArray, List.set_cons_zero, List.set_cons_succ]
  refine wpAnyH_take (i := 31) (v := ?_) rfl (by kernel_rfl) (by kernel_rfl) (by kernel_rfl) (fun _ _ _ h => h) (Or.inl ⟨by rfl, ?_⟩) (by assumption) ?_
  rotate_left
  · intro w hSw
    try dsimp only at hSw
    go_simp
    try with_reducible rfl
  try simp only [Act.put, List.setIfInBounds_toArray, List.set_cons_zero, List.set_cons_succ]
  refine wpAnyH_take (i := 32) (v := ?_) rfl (by kernel_rfl) (by kernel_rfl) (by kernel_rfl) (fun _ _ _ h => h) (Or.inl ⟨by rfl, ?_⟩) (by assumption) ?_
  rotate_left
  · intro w hSw
    try dsimp only at hSw
    go_simp
    try with_reducible rfl
  try simp only [Act.put, List.setIfInBounds_toArray, List.set_cons_zero, List.set_cons_succ]
  refine wpAnyH_ready (rs := [5, 33]) (by kernel_rfl) (by simp) ?_
  refine AllReadyH.cons rfl (fun K hK => ?_) ?_
  · go_simp
    refine hK.out _ _ ?_ (fun hHeld => ?_)
    · first
        | exact ⟨c19, c20, c21, c22⟩
        | exact ⟨(ka _ _).trans c19, (ka _ _).trans c20, (ka _ _).trans c21, (ka _ _).trans c22⟩
        | exact ⟨(kg _).trans c19, (kg _).trans c20, (kg _).trans c21, (kg _).trans c22⟩
        | exact ⟨(cell_set_ne _ _ _ _ _ (by omega)).trans ((kg _).trans c19), (cell_set_ne _ _ _ _ _ (by omega)).trans ((kg _).trans c20), (cell_set_ne _ _ _ _ _ (by omega)).trans ((kg _).trans c21), (cell_set_ne _ _ _ _ _ (by omega)).trans ((kg _).trans c22)⟩
    clear hK K
    try simp only [Act.put, List.setIfInBounds_toArray, List.set_cons_zero, List.set_cons_succ]
    refine wpAnyH_ready (rs := [33]) (by kernel_rfl) (by simp) ?_
    refine AllReadyH.cons rfl (fun K hK => ?_) ?_
    · go_simp
      refine hK.out _ _ ?_ (fun hHeld => ?_)
      · first
          | exact ⟨c19, c20, c21, c22⟩
          | exact ⟨(ka _ _).trans c19, (ka _ _).trans c20, (ka _ _).trans c21, (ka _ _).trans c22⟩
          | exact ⟨(kg _).trans c19, (kg _).trans c20, (kg _).trans c21, (kg _).trans c22⟩
          | exact ⟨(cell_set_ne _ _ _ _ _ (by omega)).trans ((kg _).trans c19), (cell_set_ne _ _ _ _ _ (by omega)).trans ((kg _).trans c20), (cell_set_ne _ _ _ _ _ (by omega)).trans ((kg _).trans c21), (cell_set_ne _ _ _ _ _ (by omega)).trans ((kg _).trans c22)⟩
      clear hK K
      try simp only [Act.put, List.setIfInBounds_toArray, List.set_cons_zero, List.set_cons_succ]
      refine wpAnyH_ready (rs := [34]) (by kernel_rfl) (by simp) ?_
      refine AllReadyH.cons rfl (fun K hK => ?_) ?_
      · refine step_append_lies _ (by rfl) _ _ _ (by rfl) w.heap.size 42 i42 _ 3 72 Yba.underlying28 hi42 hz0 hz1 hz2 rfl (by omega) (.slice none 0 0) 0 [] (by rfl) (World.ownsRow_nil _ _ _ _)
          ⟨w.heap.size, 0, none⟩ 1 1 [.slice (some ⟨gv, f, none⟩) (N - f) (N - f), .slice (some ⟨gm, f, none⟩) (N - f) (N - f), .slice aa ml ca] (by rfl) (by rfl) (World.news_of_block (cs := #[.slice (some ⟨gv, f, none⟩) (N - f) (N - f), .slice (some ⟨gm, f, none⟩) (N - f) (N - f), .slice aa ml ca]) (t := 42) (fr := (0, 0)) (heap_alloc_new w.drew _)) (by simp [Value.oneCell'])
          (by omega) (by unfold maxLen; omega) (by omega) (by simp) (w.heap.size + 1) (by simp) ?_
        intro gg cap w5 hown5 hgrow hat hlt
        have kg : ∀ o, w5.cell? ⟨b, o, none⟩ = w.cell? ⟨b, o, none⟩ := fun o => World.cell?_of_block ((hgrow.block b (by simp; omega) (by simp [Value.ownBlock])).trans (Below.heap_alloc w.drew _ b hb))
        have kf : ∀ o, w5.frozen? ⟨b, o, none⟩ = false := fun o => by
          have h1 := hf o
          have h2 := (hgrow.block b (by simp; omega) (by simp [Value.ownBlock])).trans (Below.heap_alloc w.drew _ b hb)
          simp only [World.frozen?] at h1 ⊢
          rw [h2]; exact h1
        have x16 := (kg 16).trans c16
        have x21 := (kg 21).trans c21
        have x22 := (kg 22).trans c22
        refine hK.out _ _ ?_ (fun hHeld => ?_)
        · first
            | exact ⟨c19, c20, c21, c22⟩
            | exact ⟨(ka _ _).trans c19, (ka _ _).trans c20, (ka _ _).trans c21, (ka _ _).trans c22⟩
            | exact ⟨(kg _).trans c19, (kg _).trans c20, (kg _).trans c21, (kg _).trans c22⟩
            | exact ⟨(cell_set_ne _ _ _ _ _ (by omega)).trans ((kg _).trans c19), (cell_set_ne _ _ _ _ _ (by omega)).trans ((kg _).trans c20), (cell_set_ne _ _ _ _ _ (by omega)).trans ((kg _).trans c21), (cell_set_ne _ _ _ _ _ (by omega)).trans ((kg _).trans c22)⟩
        clear hK K
        try simp only [Act.put, List.setIfInBounds_toArray, List.set_cons_zero, List.set_cons_succ]
        refine wpAnyH_take (i := 35) (v := ?_) rfl (by kernel_rfl) (by kernel_rfl) (by kernel_rfl) (fun _ _ _ h => h) (Or.inl ⟨by rfl, ?_⟩) (by assumption) ?_
        rotate_left
        · intro w hSw
          try dsimp only at hSw
          go_simp
          try with_reducible rfl
        try simp only [Act.put, List.setIfInBounds_toArray, List.set_cons_zero, List.set_cons_succ]
        refine wpAnyH_take (i := 36) (v := ?_) rfl (by kernel_rfl) (by kernel_rfl) (by kernel_rfl) (fun _ _ _ h => h) (Or.inl ⟨by rfl, ?_⟩) (by assumption) ?_
        rotate_left
        · intro w hSw
          try dsimp only at hSw
          go_simp
          try with_reducible rfl
        try simp only [Act.put, List.setIfInBounds_toArray, List.set_cons_zero, List.set_cons_succ]
        refine wpAnyH_take (i := 37) (v := ?_) rfl (by kernel_rfl) (by kernel_rfl) (by kernel_rfl) (fun _ _ _ h => h) (Or.inl ⟨by rfl, ?_⟩) (by assumption) ?_
        rotate_left
        · intro w hSw
          try dsimp only at hSw
          go_simp
          try with_reducible rfl
        try simp only [Act.put, List.setIfInBounds_toArray, List.set_cons_zero, List.set_cons_succ]
        refine wpAnyH_ready (rs := [38]) (by kernel_rfl) (by simp) ?_
        refine AllReadyH.cons rfl (fun K hK => ?_) ?_
        · go_simp
          refine hK.out _ _ ?_ (fun hHeld => ?_)
          · first
              | exact ⟨c19, c20, c21, c22⟩
              | exact ⟨(ka _ _).trans c19, (ka _ _).trans c20, (ka _ _).trans c21, (ka _ _).trans c22⟩
              | exact ⟨(kg _).trans c19, (kg _).trans c20, (kg _).trans c21, (kg _).trans c22⟩
              | exact ⟨(cell_set_ne _ _ _ _ _ (by omega)).trans ((kg _).trans c19), (cell_set_ne _ _ _ _ _ (by omega)).trans ((kg _).trans c20), (cell_set_ne _ _ _ _ _ (by omega)).trans ((kg _).trans c21), (cell_set_ne _ _ _ _ _ (by omega)).trans ((kg _).trans c22)⟩
          clear hK K
          try simp only [Act.put, List.setIfInBounds_toArray, List.set_cons_zero, List.set_cons_succ]
          refine wpAnyH_done (by kernel_rfl) ?_ _
          go_wp2
          go_end0
          exact ⟨rfl, cutPost_mk w w5 b N gg cap _ _ _ _ _ _ hb c16 c21 c22 hf hown5 hgrow⟩
        exact AllReadyH.nil
      exact AllReadyH.nil
    exact AllReadyH.nil
  refine AllReadyH.cons rfl (fun K hK => ?_) ?_
  · go_simp
    refine hK.out _ _ ?_ (fun hHeld => ?_)
    · first
        | exact ⟨c19, c20, c21, c22⟩
        | exact ⟨(ka _ _).trans c19, (ka _ _).trans c20, (ka _ _).trans c21, (ka _ _).trans c22⟩
        | exact ⟨(kg _).trans c19, (kg _).trans c20, (kg _).trans c21, (kg _).trans c22⟩
        | exact ⟨(cell_set_ne _ _ _ _ _ (by omega)).trans ((kg _).trans c19), (cell_set_ne _ _ _ _ _ (by omega)).trans ((kg _).trans c20), (cell_set_ne _ _ _ _ _ (by omega)).trans ((kg _).trans c21), (cell_set_ne _ _ _ _ _ (by omega)).trans ((kg _).trans c22)⟩
    clear hK K
    try simp only [Act.put, List.setIfInBounds_toArray, List.set_cons_zero, List.set_cons_succ]
    refine wpAnyH_ready (rs := [5]) (by kernel_rfl) (by simp) ?_
    refine AllReadyH.cons rfl (fun K hK => ?_) ?_
    · go_simp
      refine hK.out _ _ ?_ (fun hHeld => ?_)
      · first
          | exact ⟨c19, c20, c21, c22⟩
          | exact ⟨(ka _ _).trans c19, (ka _ _).trans c20, (ka _ _).trans c21, (ka _ _).trans c22⟩
          | exact ⟨(kg _).trans c19, (kg _).trans c20, (kg _).trans c21, (kg _).trans c22⟩
          | exact ⟨(cell_set_ne _ _ _ _ _ (by omega)).trans ((kg _).trans c19), (cell_set_ne _ _ _ _ _ (by omega)).trans ((kg _).trans c20), (cell_set_ne _ _ _ _ _ (by omega)).trans ((kg _).trans c21), (cell_set_ne _ _ _ _ _ (by omega)).trans ((kg _).trans c22)⟩
      clear hK K
      try simp only [Act.put, List.setIfInBounds_toArray, List.set_cons_zero, List.set_cons_succ]
      refine wpAnyH_ready (rs := [34]) (by kernel_rfl) (by simp) ?_
      refine AllReadyH.cons rfl (fun K hK => ?_) ?_
      · refine step_append_lies _ (by rfl) _ _ _ (by rfl) w.heap.size 42 i42 _ 3 72 Yba.underlying28 hi42 hz0 hz1 hz2 rfl (by omega) (.slice none 0 0) 0 [] (by rfl) (World.ownsRow_nil _ _ _ _)
          ⟨w.heap.size, 0, none⟩ 1 1 [.slice (some ⟨gv, f, none⟩) (N - f) (N - f), .slice (some ⟨gm, f, none⟩) (N - f) (N - f), .slice aa ml ca] (by rfl) (by rfl) (World.news_of_block (cs := #[.slice (some ⟨gv, f, none⟩) (N - f) (N - f), .slice (some ⟨gm, f, none⟩) (N - f) (N - f), .slice aa ml ca]) (t := 42) (fr := (0, 0)) (heap_alloc_new w.drew _)) (by simp [Value.oneCell'])
          (by omega) (by unfold maxLen; omega) (by omega) (by simp) (w.heap.size + 1) (by simp) ?_
        intro gg cap w5 hown5 hgrow hat hlt
        have kg : ∀ o, w5.cell? ⟨b, o, none⟩ = w.cell? ⟨b, o, none⟩ := fun o => World.cell?_of_block ((hgrow.block b (by simp; omega) (by simp [Value.ownBlock])).trans (Below.heap_alloc w.drew _ b hb))
        have kf : ∀ o, w5.frozen? ⟨b, o, none⟩ = false := fun o => by
          have h1 := hf o
          have h2 := (hgrow.block b (by simp; omega) (by simp [Value.ownBlock])).trans (Below.heap_alloc w.drew _ b hb)
          simp only [World.frozen?] at h1 ⊢
          rw [h2]; exact h1
        have x16 := (kg 16).trans c16
        have x21 := (kg 21).trans c21
        have x22 := (kg 22).trans c22
        refine hK.out _ _ ?_ (fun hHeld => ?_)
        · first
            | exact ⟨c19, c20, c21, c22⟩
            | exact ⟨(ka _ _).trans c19, (ka _ _).trans c20, (ka _ _).trans c21, (ka _ _).trans c22⟩
            | exact ⟨(kg _).trans c19, (kg _).trans c20, (kg _).trans c21, (kg _).trans c22⟩
            | exact ⟨(cell_set_ne _ _ _ _ _ (by omega)).trans ((kg _).trans c19), (cell_set_ne _ _ _ _ _ (by omega)).trans ((kg _).trans c20), (cell_set_ne _ _ _ _ _ (by omega)).trans ((kg _).trans c21), (cell_set_ne _ _ _ _ _ (by omega)).trans ((kg _).trans c22)⟩
        clear hK K
        try simp only [Act.put, List.setIfInBounds_toArray, List.set_cons_zero, List.set_cons_succ]
        refine wpAnyH_take (i := 35) (v := ?_) rfl (by kernel_rfl) (by kernel_rfl) (by kernel_rfl) (fun _ _ _ h => h) (Or.inl ⟨by rfl, ?_⟩) (by assumption) ?_
        rotate_left
        · intro w hSw
          try dsimp only at hSw
          go_simp
          try with_reducible rfl
        try simp only [Act.put, List.setIfInBounds_toArray, List.set_cons_zero, List.set_cons_succ]
        refine wpAnyH_take (i := 36) (v := ?_) rfl (by kernel_rfl) (by kernel_rfl) (by kernel_rfl) (fun _ _ _ h => h) (Or.inl ⟨by rfl, ?_⟩) (by assumption) ?_
        rotate_left
        · intro w hSw
          try dsimp only at hSw
          go_simp
          try with_reducible rfl
        try simp only [Act.put, List.setIfInBounds_toArray, List.set_cons_zero, List.set_cons_succ]
        refine wpAnyH_take (i := 37) (v := ?_) rfl (by kernel_rfl) (by kernel_rfl) (by kernel_rfl) (fun _ _ _ h => h) (Or.inl ⟨by rfl, ?_⟩) (by assumption) ?_
        rotate_left
        · intro w hSw
          try dsimp only at hSw
          go_simp
          try with_reducible rfl
        try simp only [Act.put, List.setIfInBounds_toArray, List.set_cons_zero, List.set_cons_succ]
        refine wpAnyH_ready (rs := [38]) (by kernel_rfl) (by simp) ?_
        refine AllReadyH.cons rfl (fun K hK => ?_) ?_
        · go_simp
          refine hK.out _ _ ?_ (fun hHeld => ?_)
          · first
              | exact ⟨c19, c20, c21, c22⟩
              | exact ⟨(ka _ _).trans c19, (ka _ _).trans c20, (ka _ _).trans c21, (ka _ _).trans c22⟩
              | exact ⟨(kg _).trans c19, (kg _).trans c20, (kg _).trans c21, (kg _).trans c22⟩
              | exact ⟨(cell_set_ne _ _ _ _ _ (by omega)).trans ((kg _).trans c19), (cell_set_ne _ _ _ _ _ (by omega)).trans ((kg _).trans c20), (cell_set_ne _ _ _ _ _ (by omega)).trans ((kg _).trans c21), (cell_set_ne _ _ _ _ _ (by omega)).trans ((kg _).trans c22)⟩
          clear hK K
          try simp only [Act.put, List.setIfInBounds_toArray, List.set_cons_zero, List.set_cons_succ]
          refine wpAnyH_done (by kernel_rfl) ?_ _
          go_wp2
          go_end0
          exact ⟨rfl, cutPost_mk w w5 b N gg cap _ _ _ _ _ _ hb c16 c21 c22 hf hown5 hgrow⟩
        exact AllReadyH.nil
      exact AllReadyH.nil
    exact AllReadyH.nil
  exact AllReadyH.nil

set_option maxRecDepth 100000 in
set_option maxHeartbeats 3200000 in
theorem cut_end (b gv gm N cv cm : Nat) (aa : Option Addr) (ml ca : Nat) (w : World)
    (hb : b < w.heap.size) (hN : N ≤ 2000) (hNv : N ≤ cv) (hNm : N ≤ cm)
    (c16 : w.cell? ⟨b, 16, none⟩ = some (.slice none 0 0))
    (c19 : w.cell? ⟨b, 19, none⟩ = some (.slice (some ⟨gv, 0, none⟩) N cv))
    (c20 : w.cell? ⟨b, 20, none⟩ = some (.slice (some ⟨gm, 0, none⟩) N cm))
    (c21 : w.cell? ⟨b, 21, none⟩ = some (.int .i64 N))
    (c22 : w.cell? ⟨b, 22, none⟩ = some (.slice aa ml ca))
    (hf : ∀ o, w.frozen? ⟨b, o, none⟩ = false) :
    Calls Yba.prog 7 #[.pointer (some ⟨b, 0, none⟩)] w fun e w' => e = .returned (.tuple #[]) ∧ CutPost w w' b N (.slice (some ⟨gv, 0, none⟩) 0 0) (.slice (some ⟨gm, 0, none⟩) 0 0) (.slice aa ml ca) := by
  have b0 : (0 : Int) ≤ (N : Int) := by omega
  have b2 : (N : Int) ≤ (cv : Int) := by omega
  have b3 : (N : Int) ≤ (cm : Int) := by omega
  have b4 : (N : Int) ≤ (N : Int) := by omega
  have fa : ∀ o, (w.alloc o).frozen? ⟨b, 16, none⟩ = false := fun o => by rw [World.frozen?_alloc_past _ _ _ hb]; exact hf 16
  obtain ⟨i42, hi42, hz0, hz1, hz2⟩ := info_parts Yba.info42
  go_enter Yba.func7, Yba.ntmps7
  go_wp2_with fail
  have ka : ∀ o p, (w.drew.alloc o).cell? ⟨b, p, none⟩ = w.cell? ⟨b, p, none⟩ := fun o p => World.cell?_of_block (Below.heap_alloc w.drew o b hb)
  refine wp_region_held_drew (S := fun w' => w'.cell? ⟨b, 19, none⟩ = some (.slice (some ⟨gv, 0, none⟩) N cv) ∧ w'.cell? ⟨b, 20, none⟩ = some (.slice (some ⟨gm, 0, none⟩) N cm) ∧ w'.cell? ⟨b, 21, none⟩ = some (.int .i64 N) ∧ w'.cell? ⟨b, 22, none⟩ = some (.slice aa ml ca)) (by kernel_rfl) ⟨c19, c20, c21, c22⟩ (fun hHeld => ?_)
  refine wpAnyH_take (i := 0) (v := ?_) rfl (by kernel_rfl) (by kernel_rfl) (by kernel_rfl) (fun _ _ _ h => h) (Or.inl ⟨by rfl, ?_⟩) (by assumption) ?_
  rotate_left
  · intro w hSw
    try dsimp only at hSw
    go_simp
    try with_reducible rfl
  try simp only [Act.put, List.setIfInBounds_toArray, List.set_cons_zero, List.set_cons_succ]
  refine wpAnyH_take (i := 1) (v := ?_) rfl (by kernel_rfl) (by kernel_rfl) (by kernel_rfl) (fun _ _ _ h => h) (Or.inl ⟨by rfl, ?_⟩) (by assumption) ?_
  rotate_left
  · intro w hSw
    try dsimp only at hSw
    go_simp
    try with_reducible rfl
  try simp only [Act.put, List.setIfInBounds_toArray, List.set_cons_zero, List.set_cons_succ]
  refine wpAnyH_take (i := 2) (v := ?_) rfl (by kernel_rfl) (by kernel_rfl) (by kernel_rfl) (fun _ _ _ h => h) (Or.inl ⟨by rfl, ?_⟩) (by assumption) ?_
  rotate_left
  · intro w hSw
    try dsimp only at hSw
    go_simp
    try with_reducible rfl
  try simp only [Act.put, List.setIfInBounds_toArray, List.set_cons_zero, List.set_cons_succ]
  refine wpAnyH_take (i := 3) (v := ?_) rfl (by kernel_rfl) (by kernel_rfl) (by kernel_rfl) (fun _ _ _ h => h) (Or.inl ⟨by rfl, ?_⟩) (by assumption) ?_
  rotate_left
  · intro w hSw
    try dsimp only at hSw
    go_simp
    try with_reducible rfl
  try simp only [Act.put, List.setIfInBounds_toArray, List.set_cons_zero, List.set_cons_succ]
  refine wpAnyH_take (i := 4) (v := ?_) rfl (by kernel_rfl) (by kernel_rfl) (by kernel_rfl) (fun _ _ _ h => h) (Or.inl ⟨by rfl, ?_⟩) (by assumption) ?_
  rotate_left
  · intro w hSw
    try dsimp only at hSw
    go_simp
    try with_reducible rfl
  try simp only [Act.put, List.setIfInBounds_toArray, List.set_cons_zero, List.set_cons_succ]
  refine wpAnyH_take (i := 6) (v := ?_) rfl (by kernel_rfl) (by kernel_rfl) (by kernel_rfl) (fun _ _ _ h => h) (Or.inl ⟨by rfl, ?_⟩) (by assumption) ?_
  rotate_left
  · intro w hSw
    try dsimp only at hSw
    go_simp
    try with_reducible rfl
  try simp only [Act.put, List.setIfInBounds_toArray, List.set_cons_zero, List.set_cons_succ]
  refine wpAnyH_take (i := 7) (v := ?_) rfl (by kernel_rfl) (by kernel_rfl) (by kernel_rfl) (fun _ _ _ h => h) (Or.inl ⟨by rfl, ?_⟩) (by assumption) ?_
  rotate_left
  · intro w hSw
    try dsimp only at hSw
    go_simp
    try with_reducible rfl
  try simp only [Act.put, List.setIfInBounds_toArray, List.set_cons_zero, List.set_cons_succ]
  refine wpAnyH_take (i := 8) (v := ?_) rfl (by kernel_rfl) (by kernel_rfl) (by kernel_rfl) (fun _ _ _ h => h) (Or.inl ⟨by rfl, ?_⟩) (by assumption) ?_
  rotate_left
  · intro w hSw
    try dsimp only at hSw
    go_simp
    try with_reducible rfl
  try simp only [Act.put, List.setIfInBounds_toArray, List.set_cons_zero, List.set_cons_succ]
  refine wpAnyH_take (i := 9) (v := ?_) rfl (by kernel_rfl) (by kernel_rfl) (by kernel_rfl) (fun _ _ _ h => h) (Or.inl ⟨by rfl, ?_⟩) (by assumption) ?_
  rotate_left
  · intro w hSw
    try dsimp only at hSw
    go_simp
    try with_reducible rfl
  try simp only [Act.put, List.setIfInBounds_toArray, List.set_cons_zero, List.set_cons_succ]
  refine wpAnyH_take (i := 10) (v := ?_) rfl (by kernel_rfl) (by kernel_rfl) (by kernel_rfl) (fun _ _ _ h => h) (Or.inl ⟨by rfl, ?_⟩) (by assumption) ?_
  rotate_left
  · intro w hSw
    try dsimp only at hSw
    go_simp
    try with_reducible rfl
  try simp only [Act.put, List.setIfInBounds_toArray, List.set_cons_zero, List.set_cons_succ]
  refine wpAnyH_take (i := 11) (v := ?_) rfl (by kernel_rfl) (by kernel_rfl) (by kernel_rfl) (fun _ _ _ h => h) (Or.inl ⟨by rfl, ?_⟩) (by assumption) ?_
  rotate_left
  · intro w hSw
    try dsimp only at hSw
    go_simp
    try with_reducible rfl
  try simp only [Act.put, List.setIfInBounds_toArray, List.set_cons_zero, List.set_cons_succ]
  refine wpAnyH_take (i := 12) (v := ?_) rfl (by kernel_rfl) (by kernel_rfl) (by kernel_rfl) (fun _ _ _ h => h) (Or.inl ⟨by rfl, ?_⟩) (by assumption) ?_
  rotate_left
  · intro w hSw
    try dsimp only at hSw
    go_simp
    try with_reducible rfl
  try simp only [Act.put, List.setIfInBounds_toArray, List.set_cons_zero, List.set_cons_succ]
  refine wpAnyH_take (i := 13) (v := ?_) rfl (by kernel_rfl) (by kernel_rfl) (by kernel_rfl) (fun _ _ _ h => h) (Or.inl ⟨by rfl, ?_⟩) (by assumption) ?_
  rotate_left
  · intro w hSw
    try dsimp only at hSw
    go_simp
    try with_reducible rfl
  try simp only [Act.put, List.setIfInBounds_toArray, List.set_cons_zero, List.set_cons_succ]
  refine wpAnyH_take (i := 14) (v := ?_) rfl (by kernel_rfl) (by kernel_rfl) (by kernel_rfl) (fun _ _ _ h => h) (Or.inl ⟨by rfl, ?_⟩) (by assumption) ?_
  rotate_left
  · intro w hSw
    try dsimp only at hSw
    go_simp
    try with_reducible rfl
  try simp only [Act.put, List.setIfInBounds_toArray, List.set_cons_zero, List.set_cons_succ]
  refine wpAnyH_take (i := 15) (v := ?_) rfl (by kernel_rfl) (by kernel_rfl) (by kernel_rfl) (fun _ _ _ h => h) (Or.inl ⟨by rfl, ?_⟩) (by assumption) ?_
  rotate_left
  · intro w hSw
    try dsimp only at hSw
    go_simp
    try with_reducible rfl
  try simp only [Act.put, List.setIfInBounds_toArray, List.set_cons_zero, List.set_cons_succ]
  refine wpAnyH_take (i := 16) (v := ?_) rfl (by kernel_rfl) (by kernel_rfl) (by kernel_rfl) (fun _ _ _ h => h) (Or.inl ⟨by rfl, ?_⟩) (by assumption) ?_
  rotate_left
  · intro w hSw
    try dsimp only at hSw
    go_simp
    try with_reducible rfl
  try simp only [Act.put, List.setIfInBounds_toArray, List.set_cons_zero, List.set_cons_succ]
  refine wpAnyH_take (i := 17) (v := ?_) rfl (by kernel_rfl) (by kernel_rfl) (by kernel_rfl) (fun _ _ _ h => h) (Or.inl ⟨by rfl, ?_⟩) (by assumption) ?_
  rotate_left
  · intro w hSw
    try dsimp only at hSw
    go_simp
    try with_reducible rfl
  try simp only [Act.put, List.setIfInBounds_toArray, List.set_cons_zero, List.set_cons_succ]
  refine wpAnyH_take (i := 18) (v := ?_) rfl (by kernel_rfl) (by kernel_rfl) (by kernel_rfl) (fun _ _ _ h => h) (Or.inl ⟨by rfl, ?_⟩) (by assumption) ?_
  rotate_left
  · intro w hSw
    try dsimp only at hSw
    go_simp
    try with_reducible rfl
  try simp only [Act.put, List.setIfInBounds_toArray, List.set_cons_zero, List.set_cons_succ]
  refine wpAnyH_take (i := 19) (v := ?_) rfl (by kernel_rfl) (by kernel_rfl) (by kernel_rfl) (fun _ _ _ h => h) (Or.inl ⟨by rfl, ?_⟩) (by assumption) ?_
  rotate_left
  · intro w hSw
    try dsimp only at hSw
    go_simp
    try with_reducible rfl
  try simp only [Act.put, List.setIfInBounds_toArray, List.set_cons_zero, List.set_cons_succ]
  refine wpAnyH_take (i := 20) (v := ?_) rfl (by kernel_rfl) (by kernel_rfl) (by kernel_rfl) (fun _ _ _ h => h) (Or.inl ⟨by rfl, ?_⟩) (by assumption) ?_
  rotate_left
  · intro w hSw
    try dsimp only at hSw
    go_simp
    try with_reducible rfl
  try simp only [Act.put, List.setIfInBounds_toArray, List.set_cons_zero, List.set_cons_succ]
  refine wpAnyH_take (i := 21) (v := ?_) rfl (by kernel_rfl) (by kernel_rfl) (by kernel_rfl) (fun _ _ _ h => h) (Or.inl ⟨by rfl, ?_⟩) (by assumption) ?_
  rotate_left
  · intro w hSw
    try dsimp only at hSw
    go_simp
    try with_reducible rfl
  try simp only [Act.put, List.setIfInBounds_toArray, List.set_cons_zero, List.set_cons_succ]
  refine wpAnyH_take (i := 22) (v := ?_) rfl (by kernel_rfl) (by kernel_rfl) (by kernel_rfl) (fun _ _ _ h => h) (Or.inl ⟨by rfl, ?_⟩) (by assumption) ?_
  rotate_left
  · intro w hSw
    try dsimp only at hSw
    go_simp
    try with_reducible rfl
  try simp only [Act.put, List.setIfInBounds_toArray, List.set_cons_zero, List.set_cons_succ]
  refine wpAnyH_take (i := 23) (v := ?_) rfl (by kernel_rfl) (by kernel_rfl) (by kernel_rfl) (fun _ _ _ h => h) (Or.inl ⟨by rfl, ?_⟩) (by assumption) ?_
  rotate_left
  · intro w hSw
    try dsimp only at hSw
    go_simp
    try with_reducible rfl
  try simp only [Act.put, List.setIfInBounds_toArray, List.set_cons_zero, List.set_cons_succ]
  refine wpAnyH_take (i := 24) (v := ?_) rfl (by kernel_rfl) (by kernel_rfl) (by kernel_rfl) (fun _ _ _ h => h) (Or.inl ⟨by rfl, ?_⟩) (by assumption) ?_
  rotate_left
  · intro w hSw
    try dsimp only at hSw
    go_simp
    try with_reducible rfl
  try simp only [Act.put, List.setIfInBounds_toArray, List.set_cons_zero, List.set_cons_succ]
  refine wpAnyH_take (i := 25) (v := ?_) rfl (by kernel_rfl) (by kernel_rfl) (by kernel_rfl) (fun _ _ _ h => h) (Or.inl ⟨by rfl, ?_⟩) (by assumption) ?_
  rotate_left
  · intro w hSw
    try dsimp only at hSw
    go_simp
    try with_reducible rfl
  try simp only [Act.put, List.setIfInBounds_toArray, List.set_cons_zero, List.set_cons_succ]
  refine wpAnyH_take (i := 26) (v := ?_) rfl (by kernel_rfl) (by kernel_rfl) (by kernel_rfl) (fun _ _ _ h => h) (Or.inl ⟨by rfl, ?_⟩) (by assumption) ?_
  rotate_left
  · intro w hSw
    try dsimp only at hSw
    go_simp
    try with_reducible rfl
  try simp only [Act.put, List.setIfInBounds_toArray, List.set_cons_zero, List.set_cons_succ]
  refine wpAnyH_take (i := 27) (v := ?_) rfl (by kernel_rfl) (by kernel_rfl) (by kernel_rfl) (fun _ _ _ h => h) (Or.inl ⟨by rfl, ?_⟩) (by assumption) ?_
  rotate_left
  · intro w hSw
    try dsimp only at hSw
    go_simp
    try with_reducible rfl
  try simp only [Act.put, List.setIfInBounds_toArray, List.set_cons_zero, List.set_cons_succ]
  refine wpAnyH_take (i := 28) (v := ?_) rfl (by kernel_rfl) (by kernel_rfl) (by kernel_rfl) (fun _ _ _ h => h) (Or.inl ⟨by rfl, ?_⟩) (by assumption) ?_
  rotate_left
  · intro w hSw
    try dsimp only at hSw
    go_simp
    try with_reducible rfl
  try simp only [Act.put, List.setIfInBounds_toArray, List.set_cons_zero, List.set_cons_succ]
  refine wpAnyH_take (i := 29) (v := ?_) rfl (by kernel_rfl) (by kernel_rfl) (by kernel_rfl) (fun _ _ _ h => h) (Or.inl ⟨by rfl, ?_⟩) (by assumption) ?_
  rotate_left
  · intro w hSw
    try dsimp only at hSw
    go_simp
    try with_reducible rfl
  try simp only [Act.put, List.setIfInBounds_toArray, List.set_cons_zero, List.set_cons_succ]
  refine wpAnyH_take (i := 30) (v := ?_) rfl (by kernel_rfl) (by kernel_rfl) (by kernel_rfl) (fun _ _ _ h => h) (Or.inl ⟨by rfl, ?_⟩) (by assumption) ?_
  rotate_left
  · intro w hSw
    try dsimp only at hSw
    go_simp
    try with_reducible rfl
  try simp only [Act.put, List.setIfInBounds_toArray, List.set_cons_zero, List.set_cons_succ]
  refine wpAnyH_take (i := 31) (v := ?_) rfl (by kernel_rfl) (by kernel_rfl) (by kernel_rfl) (fun _ _ _ h => h) (Or.inl ⟨by rfl, ?_⟩) (by assumption) ?_
  rotate_left
  · intro w hSw
    try dsimp only at hSw
    go_simp
    try with_reducible rfl
  try simp only [Act.put, List.setIfInBounds_toArray, List.set_cons_zero, List.set_cons_succ]
  refine wpAnyH_take (i := 32) (v := ?_) rfl (by kernel_rfl) (by kernel_rfl) (by kernel_rfl) (fun _ _ _ h => h) (Or.inl ⟨by rfl, ?_⟩) (by assumption) ?_
  rotate_left
  · intro w hSw
    try dsimp only at hSw
    go_simp
    try with_reducible rfl
  try simp only [Act.put, List.setIfInBounds_toArray, List.set_cons_zero, List.set_cons_succ]
  refine wpAnyH_ready (rs := [5, 33]) (by kernel_rfl) (by simp) ?_
  refine AllReadyH.cons rfl (fun K hK => ?_) ?_
  · go_simp
    refine hK.out _ _ ?_ (fun hHeld => ?_)
    · first
        | exact ⟨c19, c20, c21, c22⟩
        | exact ⟨(ka _ _).trans c19, (ka _ _).trans c20, (ka _ _).trans c21, (ka _ _).trans c22⟩
        | exact ⟨(kg _).trans c19, (kg _).trans c20, (kg _).trans c21, (kg _).trans c22⟩
        | exact ⟨(cell_set_ne _ _ _ _ _ (by omega)).trans ((kg _).trans c19), (cell_set_ne _ _ _ _ _ (by omega)).trans ((kg _).trans c20), (cell_set_ne _ _ _ _ _ (by omega)).trans ((kg _).trans c21), (cell_set_ne _ _ _ _ _ (by omega)).trans ((kg _).trans c22)⟩
    clear hK K
    try simp only [Act.put, List.setIfInBounds_toArray, List.set_cons_zero, List.set_cons_succ]
    refine wpAnyH_ready (rs := [33]) (by kernel_rfl) (by simp) ?_
    refine AllReadyH.cons rfl (fun K hK => ?_) ?_
    · go_simp
      refine hK.out _ _ ?_ (fun hHeld => ?_)
      · first
          | exact ⟨c19, c20, c21, c22⟩
          | exact ⟨(ka _ _).trans c19, (ka _ _).trans c20, (ka _ _).trans c21, (ka _ _).trans c22⟩
          | exact ⟨(kg _).trans c19, (kg _).trans c20, (kg _).trans c21, (kg _).trans c22⟩
          | exact ⟨(cell_set_ne _ _ _ _ _ (by omega)).trans ((kg _).trans c19), (cell_set_ne _ _ _ _ _ (by omega)).trans ((kg _).trans c20), (cell_set_ne _ _ _ _ _ (by omega)).trans ((kg _).trans c21), (cell_set_ne _ _ _ _ _ (by omega)).trans ((kg _).trans c22)⟩
      clear hK K
      try simp only [Act.put, List.setIfInBounds_toArray, List.set_cons_zero, List.set_cons_succ]
      refine wpAnyH_ready (rs := [34]) (by kernel_rfl) (by simp) ?_
      refine AllReadyH.cons rfl (fun K hK => ?_) ?_
      · refine step_append_lies _ (by rfl) _ _ _ (by rfl) w.heap.size 42 i42 _ 3 72 Yba.underlying28 hi42 hz0 hz1 hz2 rfl (by omega) (.slice none 0 0) 0 [] (by rfl) (World.ownsRow_nil _ _ _ _)
          ⟨w.heap.size, 0, none⟩ 1 1 [.slice (some ⟨gv, 0, none⟩) 0 0, .slice (some ⟨gm, 0, none⟩) 0 0, .slice aa ml ca] (by rfl) (by rfl) (World.news_of_block (cs := #[.slice (some ⟨gv, 0, none⟩) 0 0, .slice (some ⟨gm, 0, none⟩) 0 0, .slice aa ml ca]) (t := 42) (fr := (0, 0)) (heap_alloc_new w.drew _)) (by simp [Value.oneCell'])
          (by omega) (by unfold maxLen; omega) (by omega) (by simp) (w.heap.size + 1) (by simp) ?_
        intro gg cap w5 hown5 hgrow hat hlt
        have kg : ∀ o, w5.cell? ⟨b, o, none⟩ = w.cell? ⟨b, o, none⟩ := fun o => World.cell?_of_block ((hgrow.block b (by simp; omega) (by simp [Value.ownBlock])).trans (Below.heap_alloc w.drew _ b hb))
        have kf : ∀ o, w5.frozen? ⟨b, o, none⟩ = false := fun o => by
          have h1 := hf o
          have h2 := (hgrow.block b (by simp; omega) (by simp [Value.ownBlock])).trans (Below.heap_alloc w.drew _ b hb)
          simp only [World.frozen?] at h1 ⊢
          rw [h2]; exact h1
        have x16 := (kg 16).trans c16
        have x21 := (kg 21).trans c21
        have x22 := (kg 22).trans c22
        refine hK.out _ _ ?_ (fun hHeld => ?_)
        · first
            | exact ⟨c19, c20, c21, c22⟩
            | exact ⟨(ka _ _).trans c19, (ka _ _).trans c20, (ka _ _).trans c21, (ka _ _).trans c22⟩
            | exact ⟨(kg _).trans c19, (kg _).trans c20, (kg _).trans c21, (kg _).trans c22⟩
            | exact ⟨(cell_set_ne _ _ _ _ _ (by omega)).trans ((kg _).trans c19), (cell_set_ne _ _ _ _ _ (by omega)).trans ((kg _).trans c20), (cell_set_ne _ _ _ _ _ (by omega)).trans ((kg _).trans c21), (cell_set_ne _ _ _ _ _ (by omega)).trans ((kg _).trans c22)⟩
        clear hK K
        try simp only [Act.put, List.setIfInBounds_toArray, List.set_cons_zero, List.set_cons_succ]
        refine wpAnyH_take (i := 35) (v := ?_) rfl (by kernel_rfl) (by kernel_rfl) (by kernel_rfl) (fun _ _ _ h => h) (Or.inl ⟨by rfl, ?_⟩) (by assumption) ?_
        rotate_left
        · intro w hSw
          try dsimp only at hSw
          go_simp
          try with_reducible rfl
        try simp only [Act.put, List.setIfInBounds_toArray, List.set_cons_zero, List.set_cons_succ]
        refine wpAnyH_take (i := 36) (v := ?_) rfl (by kernel_rfl) (by kernel_rfl) (by kernel_rfl) (fun _ _ _ h => h) (Or.inl ⟨by rfl, ?_⟩) (by assumption) ?_
        rotate_left
        · intro w hSw
          try dsimp only at hSw
          go_simp
          try with_reducible rfl
        try simp only [Act.put, List.setIfInBounds_toArray, List.set_cons_zero, List.set_cons_succ]
        refine wpAnyH_take (i := 37) (v := ?_) rfl (by kernel_rfl) (by kernel_rfl) (by kernel_rfl) (fun _ _ _ h => h) (Or.inl ⟨by rfl, ?_⟩) (by assumption) ?_
        rotate_left
        · intro w hSw
          try dsimp only at hSw
          go_simp
          try with_reducible rfl
        try simp only [Act.put, List.setIfInBounds_toArray, List.set_cons_zero, List.set_cons_succ]
        refine wpAnyH_ready (rs := [38]) (by kernel_rfl) (by simp) ?_
        refine AllReadyH.cons rfl (fun K hK => ?_) ?_
        · go_simp
          refine hK.out _ _ ?_ (fun hHeld => ?_)
          · first
              | exact ⟨c19, c20, c21, c22⟩
              | exact ⟨(ka _ _).trans c19, (ka _ _).trans c20, (ka _ _).trans c21, (ka _ _).trans c22⟩
              | exact ⟨(kg _).trans c19, (kg _).trans c20, (kg _).trans c21, (kg _).trans c22⟩
              | exact ⟨(cell_set_ne _ _ _ _ _ (by omega)).trans ((kg _).trans c19), (cell_set_ne _ _ _ _ _ (by omega)).trans ((kg _).trans c20), (cell_set_ne _ _ _ _ _ (by omega)).trans ((kg _).trans c21), (cell_set_ne _ _ _ _ _ (by omega)).trans ((kg _).trans c22)⟩
          clear hK K
          try simp only [Act.put, List.setIfInBounds_toArray, List.set_cons_zero, List.set_cons_succ]
          refine wpAnyH_done (by kernel_rfl) ?_ _
          go_wp2
          go_end0
          exact ⟨rfl, cutPost_mk w w5 b N gg cap _ _ _ _ _ _ hb c16 c21 c22 hf hown5 hgrow⟩
        exact AllReadyH.nil
      exact AllReadyH.nil
    exact AllReadyH.nil
  refine AllReadyH.cons rfl (fun K hK => ?_) ?_
  · go_simp
    refine hK.out _ _ ?_ (fun hHeld => ?_)
    · first
        | exact ⟨c19, c20, c21, c22⟩
        | exact ⟨(ka _ _).trans c19, (ka _ _).trans c20, (ka _ _).trans c21, (ka _ _).trans c22⟩
        | exact ⟨(kg _).trans c19, (kg _).trans c20, (kg _).trans c21, (kg _).trans c22⟩
        | exact ⟨(cell_set_ne _ _ _ _ _ (by omega)).trans ((kg _).trans c19), (cell_set_ne _ _ _ _ _ (by omega)).trans ((kg _).trans c20), (cell_set_ne _ _ _ _ _ (by omega)).trans ((kg _).trans c21), (cell_set_ne _ _ _ _ _ (by omega)).trans ((kg _).trans c22)⟩
    clear hK K
    try simp only [Act.put, List.setIfInBounds_toArray, List.set_cons_zero, List.set_cons_succ]
    refine wpAnyH_ready (rs := [5]) (by kernel_rfl) (by simp) ?_
    refine AllReadyH.cons rfl (fun K hK => ?_) ?_
    · go_simp
      refine hK.out _ _ ?_ (fun hHeld => ?_)
      · first
          | exact ⟨c19, c20, c21, c22⟩
          | exact ⟨(ka _ _).trans c19, (ka _ _).trans c20, (ka _ _).trans c21, (ka _ _).trans c22⟩
          | exact ⟨(kg _).trans c19, (kg _).trans c20, (kg _).trans c21, (kg _).trans c22⟩
          | exact ⟨(cell_set_ne _ _ _ _ _ (by omega)).trans ((kg _).trans c19), (cell_set_ne _ _ _ _ _ (by omega)).trans ((kg _).trans c20), (cell_set_ne _ _ _ _ _ (by omega)).trans ((kg _).trans c21), (cell_set_ne _ _ _ _ _ (by omega)).trans ((kg _).trans c22)⟩
      clear hK K
      try simp only [Act.put, List.setIfInBounds_toArray, List.set_cons_zero, List.set_cons_succ]
      refine wpAnyH_ready (rs := [34]) (by kernel_rfl) (by simp) ?_
      refine AllReadyH.cons rfl (fun K hK => ?_) ?_
      · refine step_append_lies _ (by rfl) _ _ _ (by rfl) w.heap.size 42 i42 _ 3 72 Yba.underlying28 hi42 hz0 hz1 hz2 rfl (by omega) (.slice none 0 0) 0 [] (by rfl) (World.ownsRow_nil _ _ _ _)
          ⟨w.heap.size, 0, none⟩ 1 1 [.slice (some ⟨gv, 0, none⟩) 0 0, .slice (some ⟨gm, 0, none⟩) 0 0, .slice aa ml ca] (by rfl) (by rfl) (World.news_of_block (cs := #[.slice (some ⟨gv, 0, none⟩) 0 0, .slice (some ⟨gm, 0, none⟩) 0 0, .slice aa ml ca]) (t := 42) (fr := (0, 0)) (heap_alloc_new w.drew _)) (by simp [Value.oneCell'])
          (by omega) (by unfold maxLen; omega) (by omega) (by simp) (w.heap.size + 1) (by simp) ?_
        intro gg cap w5 hown5 hgrow hat hlt
        have kg : ∀ o, w5.cell? ⟨b, o, none⟩ = w.cell? ⟨b, o, none⟩ := fun o => World.cell?_of_block ((hgrow.block b (by simp; omega) (by simp [Value.ownBlock])).trans (Below.heap_alloc w.drew _ b hb))
        have kf : ∀ o, w5.frozen? ⟨b, o, none⟩ = false := fun o => by
          have h1 := hf o
          have h2 := (hgrow.block b (by simp; omega) (by simp [Value.ownBlock])).trans (Below.heap_alloc w.drew _ b hb)
          simp only [World.frozen?] at h1 ⊢
          rw [h2]; exact h1
        have x16 := (kg 16).trans c16
        have x21 := (kg 21).trans c21
        have x22 := (kg 22).trans c22
        refine hK.out _ _ ?_ (fun hHeld => ?_)
        · first
            | exact ⟨c19, c20, c21, c22⟩
            | exact ⟨(ka _ _).trans c19, (ka _ _).trans c20, (ka _ _).trans c21, (ka _ _).trans c22⟩
            | exact ⟨(kg _).trans c19, (kg _).trans c20, (kg _).trans c21, (kg _).trans c22⟩
            | exact ⟨(cell_set_ne _ _ _ _ _ (by omega)).trans ((kg _).trans c19), (cell_set_ne _ _ _ _ _ (by omega)).trans ((kg _).trans c20), (cell_set_ne _ _ _ _ _ (by omega)).trans ((kg _).trans c21), (cell_set_ne _ _ _ _ _ (by omega)).trans ((kg _).trans c22)⟩
        clear hK K
        try simp only [Act.put, List.setIfInBounds_toArray, List.set_cons_zero, List.set_cons_succ]
        refine wpAnyH_take (i := 35) (v := ?_) rfl (by kernel_rfl) (by kernel_rfl) (by kernel_rfl) (fun _ _ _ h => h) (Or.inl ⟨by rfl, ?_⟩) (by assumption) ?_
        rotate_left
        · intro w hSw
          try dsimp only at hSw
          go_simp
          try with_reducible rfl
        try simp only [Act.put, List.setIfInBounds_toArray, List.set_cons_zero, List.set_cons_succ]
        refine wpAnyH_take (i := 36) (v := ?_) rfl (by kernel_rfl) (by kernel_rfl) (by kernel_rfl) (fun _ _ _ h => h) (Or.inl ⟨by rfl, ?_⟩) (by assumption) ?_
        rotate_left
        · intro w hSw
          try dsimp only at hSw
          go_simp
          try with_reducible rfl
        try simp only [Act.put, List.setIfInBounds_toArray, List.set_cons_zero, List.set_cons_succ]
        refine wpAnyH_take (i := 37) (v := ?_) rfl (by kernel_rfl) (by kernel_rfl) (by kernel_rfl) (fun _ _ _ h => h) (Or.inl ⟨by rfl, ?_⟩) (by assumption) ?_
        rotate_left
        · intro w hSw
          try dsimp only at hSw
          go_simp
          try with_reducible rfl
        try simp only [Act.put, List.setIfInBounds_toArray, List.set_cons_zero, List.set_cons_succ]
        refine wpAnyH_ready (rs := [38]) (by kernel_rfl) (by simp) ?_
        refine AllReadyH.cons rfl (fun K hK => ?_) ?_
        · go_simp
          refine hK.out _ _ ?_ (fun hHeld => ?_)
          · first
              | exact ⟨c19, c20, c21, c22⟩
              | exact ⟨(ka _ _).trans c19, (ka _ _).trans c20, (ka _ _).trans c21, (ka _ _).trans c22⟩
              | exact ⟨(kg _).trans c19, (kg _).trans c20, (kg _).trans c21, (kg _).trans c22⟩
              | exact ⟨(cell_set_ne _ _ _ _ _ (by omega)).trans ((kg _).trans c19), (cell_set_ne _ _ _ _ _ (by omega)).trans ((kg _).trans c20), (cell_set_ne _ _ _ _ _ (by omega)).trans ((kg _).trans c21), (cell_set_ne _ _ _ _ _ (by omega)).trans ((kg _).trans c22)⟩
          clear hK K
          try simp only [Act.put, List.setIfInBounds_toArray, List.set_cons_zero, List.set_cons_succ]
          refine wpAnyH_done (by kernel_rfl) ?_ _
          go_wp2
          go_end0
          exact ⟨rfl, cutPost_mk w w5 b N gg cap _ _ _ _ _ _ hb c16 c21 c22 hf hown5 hgrow⟩
        exact AllReadyH.nil
      exact AllReadyH.nil
    exact AllReadyH.nil
  exact AllReadyH.nil

end Go.Proofs.Ybulkoqc
