/-
  No cell of these rows narrows 'for every input' (looked for: loops, veiled, ifaces, maps, wideKeys, modest, calm, conditions, laid).
  DERIVED. THE GIVEN ROWS OF THIS SEAT. 2 by the template 'for every input the law returns true; each argument reads behind the call as it read before'; 0 by the template 'total and deterministic' (their statements: YbulkoqcTotals.lean).
  GIVEN WITH THE SEED: the statements are not yours to turn. If you find one false, say at which input.
  Laid BY PROGRAM, IN A SANDBOX (cutbox-rows.mjs): the forced cells as the released guide's own fill.sh prints them over the translation 5695ed4c8a2528c8… (all of the seat's roots in one cut). By AI agents, Wed Nov 11 2026. No macro, syntax, notation, axiom, sorry.
-/
import Derived.Test.YbulkoqcChecked
import GoSem.Claim
import GoSem.ClaimJoined
import GoSem.ClaimMapViews
import Derived.JoinedTies
import Derived.KernelRfl
namespace Go.Proofs.Ybulkoqc
/- THE CELL 'sum', in the pinned program and in every row, IS THE sha256 OF THE DUMP (.gsa) THAT YbulkoqcProg.lean LOADS. Nothing in Lean hashes anything: it is a label: what it is worth is what the hold of that sum in a sandbox is worth. -/
noncomputable def Yba.pinned : Pinned := { name := "ybulkoqc", sum := "5695ed4c8a2528c807fd34999d7f85c99dd4846014c3f6e92793e0f9bf3a313c", checked := Yba.checked }
namespace Rows
def none {H : Type} : Left H := { results := [], args := [] }

/-- 'rules.LawS0756BCount': WHATEVER THE INPUT: true; the input reads as it did. -/
def lawS0756BCountSpec : ChangeSpec := { name := "lawS0756BCount", fn := fun _ => fun
  | [d1, d2, d3, d4, d5, d6, d7, d8, d9] => { results := [.lit (.bool true)], args := [d1, d2, d3, d4, d5, d6, d7, d8, d9] }
  | _ => none }
def lawS0756BCountRow : OpenClaim := { program := "ybulkoqc", sum := "5695ed4c8a2528c807fd34999d7f85c99dd4846014c3f6e92793e0f9bf3a313c", func := "example.com/conjunct/conjunct/rules.LawS0756BCount", spec := "lawS0756BCount", apart := false }
def LawS0756BCountSaid : Prop := lawS0756BCountRow.holds Yba.pinned (OpenSpec.ofChange lawS0756BCountSpec)

/-- ITS FALSE NEIGHBOUR: 'it returns false'. Refute it at one input. -/
def lawS0756BCountWrong : ChangeSpec := { name := "lawS0756BCount", fn := fun _ => fun
  | [d1, d2, d3, d4, d5, d6, d7, d8, d9] => { results := [.lit (.bool false)], args := [d1, d2, d3, d4, d5, d6, d7, d8, d9] }
  | _ => none }
def LawS0756BCountWrongFalsely : Prop := lawS0756BCountRow.holds Yba.pinned (OpenSpec.ofChange lawS0756BCountWrong)

/-- 'rules.LawS0756BCut': WHATEVER THE INPUT: true; the input reads as it did. -/
def lawS0756BCutSpec : ChangeSpec := { name := "lawS0756BCut", fn := fun _ => fun
  | [d1, d2, d3, d4, d5, d6] => { results := [.lit (.bool true)], args := [d1, d2, d3, d4, d5, d6] }
  | _ => none }
def lawS0756BCutRow : OpenClaim := { program := "ybulkoqc", sum := "5695ed4c8a2528c807fd34999d7f85c99dd4846014c3f6e92793e0f9bf3a313c", func := "example.com/conjunct/conjunct/rules.LawS0756BCut", spec := "lawS0756BCut", apart := false }
def LawS0756BCutSaid : Prop := lawS0756BCutRow.holds Yba.pinned (OpenSpec.ofChange lawS0756BCutSpec)

/-- ITS FALSE NEIGHBOUR: 'it returns false'. Refute it at one input. -/
def lawS0756BCutWrong : ChangeSpec := { name := "lawS0756BCut", fn := fun _ => fun
  | [d1, d2, d3, d4, d5, d6] => { results := [.lit (.bool false)], args := [d1, d2, d3, d4, d5, d6] }
  | _ => none }
def LawS0756BCutWrongFalsely : Prop := lawS0756BCutRow.holds Yba.pinned (OpenSpec.ofChange lawS0756BCutWrong)

end Rows
end Go.Proofs.Ybulkoqc
