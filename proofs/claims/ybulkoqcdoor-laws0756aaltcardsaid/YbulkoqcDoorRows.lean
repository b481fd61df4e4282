/-
  NARROWER THAN 'FOR EVERY INPUT', by the rows' own cells (each row's printed sentence says how): LawS0756APlain: laid · LawS0756AAlt: laid.
  DERIVED. THE GIVEN ROWS OF THIS SEAT. 2 by the template 'for every input the law returns true; each argument reads behind the call as it read before'; 0 by the template 'total and deterministic' (their statements: YbulkoqcDoorTotals.lean).
  GIVEN WITH THE SEED: the statements are not yours to turn. If you find one false, say at which input.
  Laid BY PROGRAM, IN A SANDBOX (cutbox-rows.mjs): the forced cells as the released guide's own fill.sh prints them over the translation a129bb04b0ffb637… (all of the seat's roots in one cut). By AI agents, Wed Nov 11 2026. No macro, syntax, notation, axiom, sorry.
-/
import Derived.Test.YbulkoqcDoorChecked
import GoSem.Claim
import GoSem.ClaimJoined
import GoSem.ClaimMapViews
import Derived.JoinedTies
import Derived.KernelRfl
namespace Go.Proofs.YbulkoqcDoor
/- THE CELL 'sum', in the pinned program and in every row, IS THE sha256 OF THE DUMP (.gsa) THAT YbulkoqcDoorProg.lean LOADS. Nothing in Lean hashes anything: it is a label: what it is worth is what the hold of that sum in a sandbox is worth. -/
noncomputable def Ybad.pinned : Pinned := { name := "ybulkoqcdoor", sum := "a129bb04b0ffb6374296e62dc28f93b57ad196a3e7a8c3c248ca04d05ddf4563", checked := Ybad.checked }
namespace Rows
def none {H : Type} : Left H := { results := [], args := [] }

/- WHAT THE LISTED PACKAGE-LEVEL VARIABLES READ AS WHEN THE CALL BEGINS. Each datum BY PROGRAM (the guide's laid-datum.mjs) off the statement by which the dump's own 'gosem.cut.vars' lays the variable. In a bare row this is a premise. The card (YbulkoqcDoorCards.lean) ties it to the program's text. -/
def laid_example_com_conjunct_conjunct_rules_fullSet {H : Type} : DataW H := .agg [.lit (.int .u64 18446744073709551615), .lit (.int .u64 18446744073709551615), .lit (.int .u64 18446744073709551615), .lit (.int .u64 18446744073709551615)]

/-- 'rules.LawS0756APlain': WHATEVER THE INPUT: true; the input reads as it did. -/
def lawS0756APlainSpec : ChangeSpec := { name := "lawS0756APlain", vars := ["example.com/conjunct/conjunct/rules.fullSet"], fn := fun _ => fun
  | [d1, d2, g1] => { results := [.lit (.bool true)], args := [d1, d2], vars := [g1] }
  | _ => none }
def lawS0756APlainRow : OpenClaim := { program := "ybulkoqcdoor", sum := "a129bb04b0ffb6374296e62dc28f93b57ad196a3e7a8c3c248ca04d05ddf4563", func := "example.com/conjunct/conjunct/rules.LawS0756APlain", spec := "lawS0756APlain", named := ["example.com/conjunct/conjunct/rules.fullSet"], apart := false, laid := [("example.com/conjunct/conjunct/rules.fullSet", laid_example_com_conjunct_conjunct_rules_fullSet)] }
def LawS0756APlainSaid : Prop := lawS0756APlainRow.holds Ybad.pinned (OpenSpec.ofChange lawS0756APlainSpec)

/-- ITS FALSE NEIGHBOUR: 'it returns false'. Refute it at one input. -/
def lawS0756APlainWrong : ChangeSpec := { name := "lawS0756APlain", vars := ["example.com/conjunct/conjunct/rules.fullSet"], fn := fun _ => fun
  | [d1, d2, g1] => { results := [.lit (.bool false)], args := [d1, d2], vars := [g1] }
  | _ => none }
def LawS0756APlainWrongFalsely : Prop := lawS0756APlainRow.holds Ybad.pinned (OpenSpec.ofChange lawS0756APlainWrong)

/-- 'rules.LawS0756AAlt': WHATEVER THE INPUT: true; the input reads as it did. -/
def lawS0756AAltSpec : ChangeSpec := { name := "lawS0756AAlt", vars := ["example.com/conjunct/conjunct/rules.fullSet"], fn := fun _ => fun
  | [d1, d2, d3, d4, d5, d6, d7, d8, g1] => { results := [.lit (.bool true)], args := [d1, d2, d3, d4, d5, d6, d7, d8], vars := [g1] }
  | _ => none }
def lawS0756AAltRow : OpenClaim := { program := "ybulkoqcdoor", sum := "a129bb04b0ffb6374296e62dc28f93b57ad196a3e7a8c3c248ca04d05ddf4563", func := "example.com/conjunct/conjunct/rules.LawS0756AAlt", spec := "lawS0756AAlt", named := ["example.com/conjunct/conjunct/rules.fullSet"], apart := false, laid := [("example.com/conjunct/conjunct/rules.fullSet", laid_example_com_conjunct_conjunct_rules_fullSet)] }
def LawS0756AAltSaid : Prop := lawS0756AAltRow.holds Ybad.pinned (OpenSpec.ofChange lawS0756AAltSpec)

/-- ITS FALSE NEIGHBOUR: 'it returns false'. Refute it at one input. -/
def lawS0756AAltWrong : ChangeSpec := { name := "lawS0756AAlt", vars := ["example.com/conjunct/conjunct/rules.fullSet"], fn := fun _ => fun
  | [d1, d2, d3, d4, d5, d6, d7, d8, g1] => { results := [.lit (.bool false)], args := [d1, d2, d3, d4, d5, d6, d7, d8], vars := [g1] }
  | _ => none }
def LawS0756AAltWrongFalsely : Prop := lawS0756AAltRow.holds Ybad.pinned (OpenSpec.ofChange lawS0756AAltWrong)

end Rows
end Go.Proofs.YbulkoqcDoor
