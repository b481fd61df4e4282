/- (*formWriter).cut: one part is made of the bytes from 'from' on. Own work over this program's translation. -/
import Derived.Test.YbulkoqcKept
namespace Go.Proofs.Ybulkoqc
open Go.RowKit
set_option linter.unusedVariables false

theorem Yba.info42 : (Yba.prog.info? 42).map (fun i => (i.zero, i.size, i.bytes)) = some (some (.agg #[.slice none 0 0, .slice none 0 0, .slice none 0 0]), 3, 72) := by kernel_rfl

/-- What 'cut' leaves: one part; 'from' at the end; no alternates. -/
structure CutPost (w w' : World) (b N : Nat) (sv sm av : Value) : Prop where
  kept : Kept [b] w w'
  rest : ∀ o, o ≠ 16 → o ≠ 21 → o ≠ 22 → w'.cell? ⟨b, o, none⟩ = w.cell? ⟨b, o, none⟩
  frz : ∀ o, w'.frozen? ⟨b, o, none⟩ = false
  c21 : w'.cell? ⟨b, 21, none⟩ = some (.int .i64 N)
  c22 : w'.cell? ⟨b, 22, none⟩ = some (.slice none 0 0)
  row : ∃ g cap, w.heap.size ≤ g ∧ w'.cell? ⟨b, 16, none⟩ = some (.slice (some ⟨g, 0, none⟩) 1 cap) ∧ w'.cell? ⟨g, 0, none⟩ = some sv ∧ w'.cell? ⟨g, 1, none⟩ = some sm ∧ w'.cell? ⟨g, 2, none⟩ = some av

/-- The capacity, and the cells, of the row of parts that the append of the first part makes. -/
def pCap (w : World) : Nat := grownCap w 1 0 42
def pCells (w : World) (v0 v1 v2 : Value) : Array Value := #[v0, v1, v2] ++ Builtin.zeroCells (Value.agg #[.slice none 0 0, .slice none 0 0, .slice none 0 0]).cells (grownCap w 1 0 42 - 1)

theorem app_part (w : World) (v0 v1 v2 : Value) :
    Sem.run Yba.prog (Builtin.append_ #[28, 28] 28 #[.slice none 0 0, .slice (some ⟨w.heap.size, 0, none⟩) 1 1]) (w.alloc (.cells #[v0, v1, v2] 42)).drew =
      .ok (.slice (some ⟨w.heap.size + 1, 0, none⟩) 1 (pCap (w.alloc (.cells #[v0, v1, v2] 42)).drew)) (((w.alloc (.cells #[v0, v1, v2] 42)).drew.alloc (.cells (pCells (w.alloc (.cells #[v0, v1, v2] 42)).drew v0 v1 v2) 42)).drew) := by
  obtain ⟨i0, hi0, hz0, hz1, hz2⟩ := info_parts Yba.info42
  have h := run_append_nil (P := Yba.prog) (w.alloc (.cells #[v0, v1, v2] 42)).drew 28 28 42 i0 _ Yba.underlying28 hi0 hz0 ⟨w.heap.size, 0, none⟩ 1 1 [v0, v1, v2] (by rw [hz1]; rfl)
    (World.news_of_block (cs := #[v0, v1, v2]) (t := 42) (fr := (0, 0)) (heap_alloc_new w _)) (by omega) (by omega) (by rw [hz2]; omega)
  rw [h]
  simp [pCap, pCells, World.alloc_drew]

theorem app_part_wp (A : Act) (w : World) (v0 v1 v2 : Value) (pos : String) (after : Array Edge) (K : Act → World → Prop) (Q : Exit → Act → World → Prop)
    (h1 : A.eval (.tmp 13) = .slice none 0 0) (h2 : A.eval (.tmp 41) = .slice (some ⟨w.heap.size, 0, none⟩) 1 1) :
    Oper.wp Yba.prog { dst := some 42, op := Op.call { callee := Callee.builtin Builtin.append, args := #[.tmp 13, .tmp 41], argTypes := #[28, 28] }, type := 28, pos := pos, after := after, guard := none } A (w.alloc (.cells #[v0, v1, v2] 42)).drew K Q =
      K (A.put (some 42) (.slice (some ⟨w.heap.size + 1, 0, none⟩) 1 (pCap (w.alloc (.cells #[v0, v1, v2] 42)).drew))) (((w.alloc (.cells #[v0, v1, v2] 42)).drew.alloc (.cells (pCells (w.alloc (.cells #[v0, v1, v2] 42)).drew v0 v1 v2) 42)).drew) := by
  unfold Oper.wp execOp
  simp only [resolve, invoke, builtin, Sem.run_bind, Sem.run_pure, Result.andThen_ok, List.map_toArray, List.map_cons, List.map_nil, h1, h2, app_part]
  rfl

attribute [local go_sem ↓] app_part_wp

theorem pCells_at (u : World) (v0 v1 v2 : Value) : (pCells u v0 v1 v2)[0]? = some v0 ∧ (pCells u v0 v1 v2)[1]? = some v1 ∧ (pCells u v0 v1 v2)[2]? = some v2 := by
  unfold pCells
  refine ⟨?_, ?_, ?_⟩
  all_goals (rw [Array.getElem?_append_left (by simp)]; rfl)

theorem cutPost_mk (w u : World) (b N pc : Nat) (sv sm av u16 u21 u22 : Value) (o1 : Obj) (hb : b < w.heap.size)
    (c16 : w.cell? ⟨b, 16, none⟩ = some u16) (c21 : w.cell? ⟨b, 21, none⟩ = some u21) (c22 : w.cell? ⟨b, 22, none⟩ = some u22) (hf : ∀ o, w.frozen? ⟨b, o, none⟩ = false) :
    CutPost w (((((w.setCell ⟨b, 16, none⟩ (.slice (some ⟨w.heap.size + 1, 0, none⟩) 1 pc)).setCell ⟨b, 21, none⟩ (.int .i64 N)).setCell ⟨b, 22, none⟩ (.slice none 0 0)).alloc o1).alloc (.cells (pCells u sv sm av) 42)).drew.drew b N sv sm av := by
  have e : ∀ o, (((((w.setCell ⟨b, 16, none⟩ (.slice (some ⟨w.heap.size + 1, 0, none⟩) 1 pc)).setCell ⟨b, 21, none⟩ (.int .i64 N)).setCell ⟨b, 22, none⟩ (.slice none 0 0)).alloc o1).alloc (.cells (pCells u sv sm av) 42)).drew.drew.cell? ⟨b, o, none⟩ =
      (((w.setCell ⟨b, 16, none⟩ (.slice (some ⟨w.heap.size + 1, 0, none⟩) 1 pc)).setCell ⟨b, 21, none⟩ (.int .i64 N)).setCell ⟨b, 22, none⟩ (.slice none 0 0)).cell? ⟨b, o, none⟩ := by
    intro o
    show ((World.alloc _ _).alloc _).cell? _ = _
    rw [World.cell?_alloc_past _ _ _ (by simp; omega), World.cell?_alloc_past _ _ _ (by simpa using hb)]
  obtain ⟨p0, p1, p2⟩ := pCells_at u sv sm av
  have n : ∀ o, (((((w.setCell ⟨b, 16, none⟩ (.slice (some ⟨w.heap.size + 1, 0, none⟩) 1 pc)).setCell ⟨b, 21, none⟩ (.int .i64 N)).setCell ⟨b, 22, none⟩ (.slice none 0 0)).alloc o1).alloc (.cells (pCells u sv sm av) 42)).drew.drew.cell? ⟨w.heap.size + 1, o, none⟩ = (pCells u sv sm av)[o]? := by
    intro o
    show ((World.alloc _ _).alloc _).cell? _ = _
    have := World.cell?_alloc_new (((w.setCell ⟨b, 16, none⟩ (.slice (some ⟨w.heap.size + 1, 0, none⟩) 1 pc)).setCell ⟨b, 21, none⟩ (.int .i64 N)).setCell ⟨b, 22, none⟩ (.slice none 0 0) |>.alloc o1) (pCells u sv sm av) 42 o
    simpa using this
  refine ⟨?_, ?_, ?_, ?_, ?_, w.heap.size + 1, pc, by omega, ?_, ?_, ?_, ?_⟩
  · exact ((((((Kept.refl [b] w).setCell (p := ⟨b, 16, none⟩) (.inl (by simp)) _).setCell (p := ⟨b, 21, none⟩) (.inl (by simp)) _).setCell (p := ⟨b, 22, none⟩) (.inl (by simp)) _).alloc _).alloc _).drew.drew
  · intro o h1 h2 h3
    rw [e, cell_set_ne _ _ _ _ _ (Ne.symm h3), cell_set_ne _ _ _ _ _ (Ne.symm h2), cell_set_ne _ _ _ _ _ (Ne.symm h1)]
  · intro o
    show ((World.alloc _ _).alloc _).frozen? _ = _
    rw [World.frozen?_alloc_past _ _ _ (by simp; omega), World.frozen?_alloc_past _ _ _ (by simpa using hb)]
    simpa using hf o
  · rw [e, cell_set_ne _ _ _ _ _ (by omega)]
    exact cell_set_same _ _ _ _ u21 (by rw [cell_set_ne _ _ _ _ _ (by omega)]; exact c21)
  · rw [e]
    exact cell_set_same _ _ _ _ u22 (by rw [cell_set_ne _ _ _ _ _ (by omega), cell_set_ne _ _ _ _ _ (by omega)]; exact c22)
  · rw [e, cell_set_ne _ _ _ _ _ (by omega), cell_set_ne _ _ _ _ _ (by omega)]
    exact cell_set_same _ _ _ _ u16 c16
  · rw [n]; exact p0
  · rw [n]; exact p1
  · rw [n]; exact p2

set_option maxRecDepth 100000 in
set_option maxHeartbeats 3200000 in
theorem cut_some (b gv gm N cv cm f : Nat) (aa : Option Addr) (ml ca : Nat) (w : World)
    (hb : b < w.heap.size) (hN : N ≤ 2000) (hfN : f < N) (hNv : N ≤ cv) (hNm : N ≤ cm)
    (c16 : w.cell? ⟨b, 16, none⟩ = some (.slice none 0 0))
    (c19 : w.cell? ⟨b, 19, none⟩ = some (.slice (some ⟨gv, 0, none⟩) N cv))
    (c20 : w.cell? ⟨b, 20, none⟩ = some (.slice (some ⟨gm, 0, none⟩) N cm))
    (c21 : w.cell? ⟨b, 21, none⟩ = some (.int .i64 f))
    (c22 : w.cell? ⟨b, 22, none⟩ = some (.slice aa ml ca))
    (hf : ∀ o, w.frozen? ⟨b, o, none⟩ = false) :
    Calls Yba.prog 7 #[.pointer (some ⟨b, 0, none⟩)] w fun e w' => e = .returned (.tuple #[]) ∧ CutPost w w' b N (.slice (some ⟨gv, f, none⟩) (N - f) (N - f)) (.slice (some ⟨gm, f, none⟩) (N - f) (N - f)) (.slice aa ml ca) := by
  have b0 : (0 : Int) ≤ (f : Int) := by omega
  have b1 : (f : Int) ≤ (N : Int) := by omega
  have ne : ¬ N = f := by omega
  have b2 : (N : Int) ≤ (cv : Int) := by omega
  have b3 : (N : Int) ≤ (cm : Int) := by omega
  have b4 : (N : Int) ≤ (N : Int) := by omega
  have fa : ∀ o, (w.alloc o).frozen? ⟨b, 16, none⟩ = false := fun o => by rw [World.frozen?_alloc_past _ _ _ hb]; exact hf 16
  go_enter Yba.func7, Yba.ntmps7
  go_wp2_with fail
  go_big_region
  go_wp2
  go_end0
  exact ⟨rfl, cutPost_mk w _ b N _ _ _ _ _ _ _ _ hb c16 c21 c22 hf⟩

set_option maxRecDepth 100000 in
set_option maxHeartbeats 3200000 in
theorem cut_end (b gv gm N cv cm : Nat) (aa : Option Addr) (ml ca : Nat) (w : World)
    (hb : b < w.heap.size) (hN : N ≤ 2000) (hNv : N ≤ cv) (hNm : N ≤ cm)
    (c16 : w.cell? ⟨b, 16, none⟩ = some (.slice none 0 0))
    (c19 : w.cell? ⟨b, 19, none⟩ = some (.slice (some ⟨gv, 0, none⟩) N cv))
    (c20 : w.cell? ⟨b, 20, none⟩ = some (.slice (some ⟨gm, 0, none⟩) N cm))
    (c21 : w.cell? ⟨b, 21, none⟩ = some (.int .i64 N))
    (c22 : w.cell? ⟨b, 22, none⟩ = some (.slice aa ml ca))
    (hf : ∀ o, w.frozen? ⟨b, o, none⟩ = false) :
    Calls Yba.prog 7 #[.pointer (some ⟨b, 0, none⟩)] w fun e w' => e = .returned (.tuple #[]) ∧ CutPost w w' b N (.slice (some ⟨gv, 0, none⟩) 0 0) (.slice (some ⟨gm, 0, none⟩) 0 0) (.slice aa ml ca) := by
  have b0 : (0 : Int) ≤ (N : Int) := by omega
  have b2 : (N : Int) ≤ (cv : Int) := by omega
  have b3 : (N : Int) ≤ (cm : Int) := by omega
  have b4 : (N : Int) ≤ (N : Int) := by omega
  have fa : ∀ o, (w.alloc o).frozen? ⟨b, 16, none⟩ = false := fun o => by rw [World.frozen?_alloc_past _ _ _ hb]; exact hf 16
  go_enter Yba.func7, Yba.ntmps7
  go_wp2_with fail
  go_big_region
  go_wp2
  go_end0
  exact ⟨rfl, cutPost_mk w _ b N _ _ _ _ _ _ _ _ hb c16 c21 c22 hf⟩

end Go.Proofs.Ybulkoqc
