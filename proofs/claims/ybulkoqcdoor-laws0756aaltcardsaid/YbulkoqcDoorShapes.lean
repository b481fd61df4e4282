/- What a walk is told of slices of numbers, and of slices of such, that came in. Own work. -/
import Derived.Test.YbulkoqcDoorLaid
import Derived.Deep.Matrix
namespace Go.Proofs.YbulkoqcDoor
open Go.ChangeShapes Go.WideShapes Go.ChangeAt Go.RowKit

theorem shapeK {k : IntKind} {N : Nat} (hN : 0 < N) (hk : ∀ n, (Lit.int k n).wf = true → 0 ≤ n ∧ n < (N : Int)) {W : World} {a : Option Addr} {len cap : Nat} {zs : List Int}
    (h : (a = none ∧ len = 0) ∨ ∃ x, a = some x ∧ len ≤ cap ∧ zs.length = cap ∧ (∀ i, i < zs.length → W.cell? (x.add i) = some (.int k (zs.getD i 0))) ∧ ∀ n ∈ zs, (Lit.int k n).wf = true) :
    ∃ (b off : Nat) (z : Nat → Nat), (0 < len → a = some ⟨b, off, none⟩ ∧ b < W.heap.size) ∧ (∀ j, j < len → W.cell? ⟨b, off + j, none⟩ = some (.int k (z j))) ∧ ∀ j, z j < N := by
  by_cases hp : 0 < len
  · rcases h with ⟨_, h⟩ | ⟨x, rfl, hl, hz, hc, hw⟩
    · omega
    · obtain ⟨b, off, rfl, hcc⟩ := ints_at hc (by omega)
      have hb : ∀ j, j < zs.length → 0 ≤ zs.getD j 0 ∧ zs.getD j 0 < (N : Int) := fun j hj => by
        have hm : zs.getD j 0 ∈ zs := by rw [List.getD_eq_getElem?_getD, List.getElem?_eq_getElem hj]; exact List.getElem_mem hj
        exact hk _ (hw _ hm)
      refine ⟨b, off, fun j => if j < zs.length then (zs.getD j 0).toNat else 0, fun _ => ⟨rfl, ?_⟩, fun j hj => ?_, fun j => ?_⟩
      · have := World.block_lt_of_cell? W _ (hcc 0 (by omega))
        simpa using this
      · have hb' := hb j (by omega)
        rw [hcc j (by omega)]
        show _ = some (Value.int k ((if j < zs.length then (zs.getD j 0).toNat else 0 : Nat) : Int))
        rw [if_pos (show j < zs.length by omega), Int.toNat_of_nonneg hb'.1]
      · show (if j < zs.length then (zs.getD j 0).toNat else 0) < N
        split
        · have := hb j (by assumption); omega
        · omega
  · exact ⟨0, 0, fun _ => 0, fun h => absurd h hp, fun j hj => by omega, fun _ => hN⟩

theorem kind8 (n : Int) (h : (Lit.int .u8 n).wf = true) : 0 ≤ n ∧ n < ((256 : Nat) : Int) := by have := bounds_u8 h; omega
theorem kind16 (n : Int) (h : (Lit.int .u16 n).wf = true) : 0 ≤ n ∧ n < ((65536 : Nat) : Int) := by have := bounds_u16 h; omega

/-- A slice of numbers, opened. -/
theorem open_shape {H : Type} {enc : TypeId × Value → H} {t e : TypeId} {k : IntKind} {N : Nat} (hN : 0 < N) (hk : ∀ n, (Lit.int k n).wf = true → 0 ≤ n ∧ n < (N : Int)) (ht : Ybad.prog.underlying t = some (.slice e)) (he : Ybad.prog.underlying e = some (.int k)) (ce : Ybad.prog.cellsOf e = 1)
    {W : World} {a : Option Addr} {len cap : Nat} {d : DataW H} {p : List MemPlace} (h : DataW.Trod enc Ybad.prog W 0 (fun _ => true) true t (.slice a len cap) d p) :
    ∃ (b off : Nat) (z : Nat → Nat), (0 < len → a = some ⟨b, off, none⟩ ∧ b < W.heap.size) ∧ (∀ j, j < len → W.cell? ⟨b, off + j, none⟩ = some (.int k (z j))) ∧ ∀ j, z j < N := by
  obtain ⟨fuel, hf⟩ := h
  rcases open_ints ht he ce hf with ⟨hcs, _⟩ | ⟨x, l, c, zs, hcs, _, hl, hm, hz, _, hcell, hwz⟩
  · simp [Value.cells] at hcs
    obtain ⟨rfl, rfl, rfl⟩ := hcs
    exact shapeK hN hk (cap := 0) (zs := []) (.inl ⟨rfl, rfl⟩)
  · simp [Value.cells] at hcs
    obtain ⟨rfl, rfl, rfl⟩ := hcs
    exact shapeK hN hk (cap := cap) (zs := zs) (.inr ⟨_, rfl, hl, by simpa using hz, hcell, hwz⟩)

/-- A slice of slices of numbers, opened. -/
theorem open_shapes {H : Type} {enc : TypeId × Value → H} {t e q : TypeId} {k : IntKind} {N : Nat} (hN : 0 < N) (hk : ∀ n, (Lit.int k n).wf = true → 0 ≤ n ∧ n < (N : Int)) (ht : Ybad.prog.underlying t = some (.slice e)) (he : Ybad.prog.underlying e = some (.slice q)) (hq : Ybad.prog.underlying q = some (.int k)) (ce : Ybad.prog.cellsOf e = 1) (cq : Ybad.prog.cellsOf q = 1)
    {W : World} {a : Option Addr} {len cap : Nat} {d : DataW H} {p : List MemPlace} (h : DataW.Trod enc Ybad.prog W 0 (fun _ => true) true t (.slice a len cap) d p) :
    ∃ (b0 o0 : Nat) (A : Nat → Option Addr) (B O Ln Cp : Nat → Nat) (z : Nat → Nat → Nat), (0 < len → a = some ⟨b0, o0, none⟩ ∧ b0 < W.heap.size) ∧ (∀ i, i < len → W.cell? ⟨b0, o0 + i, none⟩ = some (.slice (A i) (Ln i) (Cp i))) ∧ (∀ i, i < len → 0 < Ln i → A i = some ⟨B i, O i, none⟩ ∧ B i < W.heap.size) ∧ (∀ i, i < len → ∀ j, j < Ln i → W.cell? ⟨B i, O i + j, none⟩ = some (.int k (z i j))) ∧ (∀ i j, z i j < N) := by
  obtain ⟨fuel, hf⟩ := h
  by_cases hp : 0 < len
  · rcases Go.Deep.open_int_rows ht he hq ce cq hf with ⟨hcs, _⟩ | ⟨x, l, c, A, L, C, Z, hcs, _, hl, hm, _, hr⟩
    · simp [Value.cells] at hcs
      omega
    · simp [Value.cells] at hcs
      obtain ⟨rfl, rfl, rfl⟩ := hcs
      have each : ∀ r, r < len → ∃ y : Nat × Nat × (Nat → Nat), (0 < L r → A r = some ⟨y.1, y.2.1, none⟩ ∧ y.1 < W.heap.size) ∧ (∀ j, j < L r → W.cell? ⟨y.1, y.2.1 + j, none⟩ = some (.int k (y.2.2 j))) ∧ ∀ j, y.2.2 j < N := by
        intro r hrl
        obtain ⟨_, r1, r2, r3, r4, r5, r6⟩ := hr r (by omega)
        have hs : (A r = none ∧ L r = 0) ∨ ∃ x, A r = some x ∧ L r ≤ C r ∧ (Z r).length = C r ∧ (∀ i, i < (Z r).length → W.cell? (x.add i) = some (.int k ((Z r).getD i 0))) ∧ ∀ n ∈ Z r, (Lit.int k n).wf = true := by
          cases hA : A r with
          | none => exact .inl ⟨rfl, by have := r5 hA; omega⟩
          | some a' => exact .inr ⟨a', rfl, r1, r3, fun i hi => (r6 a' hA).2 i (by omega), r4⟩
        obtain ⟨b, off, z, q1, q2, q3⟩ := shapeK hN hk hs
        exact ⟨(b, off, z), q1, q2, q3⟩
      obtain ⟨y, hy⟩ := Go.Deep.choose_lt each
      obtain ⟨b0, o0, spot⟩ := x
      have hspot : spot = none := by simpa [Addr.add] using World.cell?_spot (hr 0 (by omega)).1
      subst hspot
      have htop : ∀ i, i < len → W.cell? ⟨b0, o0 + i, none⟩ = some (.slice (A i) (L i) (C i)) := fun i hi => by
        have := (hr i (by omega)).1
        rw [Go.WideShapes.add_plain] at this
        exact this
      refine ⟨b0, o0, A, fun i => (y i).1, fun i => (y i).2.1, L, C, fun i j => if i < len then (y i).2.2 j else 0, fun _ => ⟨rfl, ?_⟩, htop, fun i hi => (hy i hi).1, fun i hi j hj => ?_, fun i j => ?_⟩
      · have := World.block_lt_of_cell? W _ (htop 0 hp)
        simpa using this
      · show _ = some (Value.int k ((if i < len then (y i).2.2 j else 0 : Nat) : Int))
        rw [if_pos hi]
        exact (hy i hi).2.1 j hj
      · show (if i < len then (y i).2.2 j else 0) < N
        split
        · exact (hy i (by assumption)).2.2 j
        · exact hN
  · exact ⟨0, 0, fun _ => none, fun _ => 0, fun _ => 0, fun _ => 0, fun _ => 0, fun _ _ => 0, fun h => absurd h hp, fun i hi => by omega, fun i hi => by omega, fun i hi => by omega, fun _ _ => hN⟩
end Go.Proofs.YbulkoqcDoor
