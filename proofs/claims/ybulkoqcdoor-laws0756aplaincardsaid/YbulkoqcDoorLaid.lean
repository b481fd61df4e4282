/- What the row's condition on the listed variable gives the walks. Own work over this program's translation. -/
import Derived.Test.YbulkoqcDoorAdd
import Derived.ProofKit
import Derived.LaidMore
import Derived.OpenShut
import Derived.OpenVars
import Derived.Stop.Joined
namespace Go.Proofs.YbulkoqcDoor
open Go.ChangeShapes Go.WideShapes Go.ChangeAt Go.RowKit

/-- The one variable that both rows list, and what they list of it. -/
def fsName : String := Rows.lawS0756APlainSpec.vars.headD ""
def laid1 : List (String × DataW Unit) := Rows.lawS0756APlainRow.laid

theorem own : ownKnob Ybad.prog.godebug = none := by kernel_rfl
theorem laidOut : laidOutB Ybad.prog = true := by kernel_rfl
theorem gFull : Ybad.prog.globalNamed fsName = some 1 := by kernel_rfl
theorem tFull : (Ybad.prog.globals[1]?).map (·.type) = some 38 := by kernel_rfl
theorem varsOk : varsRowed Ybad.prog [fsName] = true := by kernel_rfl

/-- The door's own heap meets the condition. -/
theorem door_met (os : Os) (args : Array Value) : laidMetH Ybad.prog laid1 ((World.doorLaid Ybad.prog 24 os).forCall (fun _ _ => 0) ⟨#[], args, []⟩).memory :=
  laidMetH_of_parts3 (fuel := 8) (laidMet_of_run' 8 (by kernel_rfl) (by kernel_rfl)) (by kernel_rfl) (by kernel_rfl)

theorem of_laid {W : World} (h : laidMetH Ybad.prog laid1 W) : FullVar W ∧ 1 < W.heap.size := by
  rw [MakeChecks.laidMetH_plain _ _ _ (by kernel_rfl)] at h
  obtain ⟨ps, ⟨g0, t0, cs0, f0, p0, q0, hg0, ht0, hv0, hd0, _, _⟩, _, _⟩ := h
  obtain rfl := Option.some.inj (gFull.symm.trans hg0)
  obtain rfl := Option.some.inj (tFull.symm.trans ht0)
  obtain ⟨xs, m1, rfl, hx1, hlen, hn4, hel⟩ := DataW.trod_array Ybad.underlying38 hd0
  have c36 : Ybad.prog.cellsOf 36 = 1 := by kernel_rfl
  have c38 : Ybad.prog.cellsOf 38 = 4 := by kernel_rfl
  rw [c36] at hel
  rw [c38] at hlen
  have hF : FullVar W := by
    intro k hk
    have e : wd (fun _ => true) k = 18446744073709551615 := wd_full k
    rw [World.var?_cell hg0 hv0 k, e]
    have hk' := hel k hk
    simp only [Prod.mk.injEq] at hx1
    obtain ⟨x, hx⟩ : ∃ x, xs[k]? = some x := ⟨xs[k], List.getElem?_eq_getElem (by omega)⟩
    rw [hx] at hk'
    obtain ⟨n, e1, e2, _⟩ := DataW.trod_int Ybad.underlying36 hk'
    have hn : n = 18446744073709551615 := by
      have h1 : (xs.map (·.1))[k]? = some x.1 := by rw [List.getElem?_map, hx]; rfl
      have h2 : DataW.agg [.lit (.int .u64 18446744073709551615), .lit (.int .u64 18446744073709551615), .lit (.int .u64 18446744073709551615), .lit (.int .u64 18446744073709551615)] = DataW.agg (xs.map (·.1)) := hx1.1
      simp only [DataW.agg.injEq] at h2
      rw [← h2, e2] at h1
      match k, hk with
      | 0, _ => simpa using h1.symm
      | 1, _ => simpa using h1.symm
      | 2, _ => simpa using h1.symm
      | 3, _ => simpa using h1.symm
    subst hn
    have h3 : (cs0.toList.drop (k * 1)).take 1 = [.int .u64 18446744073709551615] := e1
    have h4 : ((cs0.toList.drop (k * 1)).take 1)[0]? = some (.int .u64 18446744073709551615) := by rw [h3]; rfl
    rw [List.getElem?_take_of_lt (by omega), List.getElem?_drop] at h4
    simpa using h4
  refine ⟨hF, ?_⟩
  have := World.block_lt_of_cell? W _ (hF 0 (by omega))
  simpa using this
end Go.Proofs.YbulkoqcDoor
