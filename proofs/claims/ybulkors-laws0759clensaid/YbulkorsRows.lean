/-
  No cell of these rows narrows 'for every input' (looked for: loops, veiled, ifaces, maps, wideKeys, modest, calm, conditions, laid).
  DERIVED. THE GIVEN ROWS OF THIS SEAT. 4 by the template 'for every input the law returns true; each argument reads behind the call as it read before'; 0 by the template 'total and deterministic' (their statements: YbulkorsTotals.lean).
  GIVEN WITH THE SEED: the statements are not yours to turn. If you find one false, say at which input.
  Laid BY PROGRAM, IN A SANDBOX (cutbox-rows.mjs): the forced cells as the released guide's own fill.sh prints them over the translation 0266bb8345d2013a… (all of the seat's roots in one cut). By AI agents, Wed Nov 11 2026. No macro, syntax, notation, axiom, sorry.
-/
import Derived.Test.YbulkorsChecked
import GoSem.Claim
import GoSem.ClaimJoined
import GoSem.ClaimMapViews
import Derived.JoinedTies
import Derived.KernelRfl
namespace Go.Proofs.Ybulkors
/- THE CELL 'sum', in the pinned program and in every row, IS THE sha256 OF THE DUMP (.gsa) THAT YbulkorsProg.lean LOADS. Nothing in Lean hashes anything: it is a label: what it is worth is what the hold of that sum in a sandbox is worth. -/
noncomputable def Yba.pinned : Pinned := { name := "ybulkors", sum := "0266bb8345d2013a47702041dccf72596c10de86e951807d8386a254bae8fec5", checked := Yba.checked }
namespace Rows
def none {H : Type} : Left H := { results := [], args := [] }

/-- 'reed.LawS0759ARaw': WHATEVER THE INPUT: true; the input reads as it did. -/
def lawS0759ARawSpec : ChangeSpec := { name := "lawS0759ARaw", fn := fun _ => fun
  | [d1, d2] => { results := [.lit (.bool true)], args := [d1, d2] }
  | _ => none }
def lawS0759ARawRow : OpenClaim := { program := "ybulkors", sum := "0266bb8345d2013a47702041dccf72596c10de86e951807d8386a254bae8fec5", func := "example.com/reed/reed.LawS0759ARaw", spec := "lawS0759ARaw", plainKeys := false, apart := false }
def LawS0759ARawSaid : Prop := lawS0759ARawRow.holds Yba.pinned (OpenSpec.ofChange lawS0759ARawSpec)

/-- ITS FALSE NEIGHBOUR: 'it returns false'. Refute it at one input. -/
def lawS0759ARawWrong : ChangeSpec := { name := "lawS0759ARaw", fn := fun _ => fun
  | [d1, d2] => { results := [.lit (.bool false)], args := [d1, d2] }
  | _ => none }
def LawS0759ARawWrongFalsely : Prop := lawS0759ARawRow.holds Yba.pinned (OpenSpec.ofChange lawS0759ARawWrong)

/-- 'reed.LawS0759ABuilt': WHATEVER THE INPUT: true; the input reads as it did. -/
def lawS0759ABuiltSpec : ChangeSpec := { name := "lawS0759ABuilt", fn := fun _ => fun
  | [d1, d2] => { results := [.lit (.bool true)], args := [d1, d2] }
  | _ => none }
def lawS0759ABuiltRow : OpenClaim := { program := "ybulkors", sum := "0266bb8345d2013a47702041dccf72596c10de86e951807d8386a254bae8fec5", func := "example.com/reed/reed.LawS0759ABuilt", spec := "lawS0759ABuilt", plainKeys := false, apart := false }
def LawS0759ABuiltSaid : Prop := lawS0759ABuiltRow.holds Yba.pinned (OpenSpec.ofChange lawS0759ABuiltSpec)

/-- ITS FALSE NEIGHBOUR: 'it returns false'. Refute it at one input. -/
def lawS0759ABuiltWrong : ChangeSpec := { name := "lawS0759ABuilt", fn := fun _ => fun
  | [d1, d2] => { results := [.lit (.bool false)], args := [d1, d2] }
  | _ => none }
def LawS0759ABuiltWrongFalsely : Prop := lawS0759ABuiltRow.holds Yba.pinned (OpenSpec.ofChange lawS0759ABuiltWrong)

/-- 'reed.LawS0759CMembers': WHATEVER THE INPUT: true; the input reads as it did. -/
def lawS0759CMembersSpec : ChangeSpec := { name := "lawS0759CMembers", fn := fun _ => fun
  | [d1, d2] => { results := [.lit (.bool true)], args := [d1, d2] }
  | _ => none }
def lawS0759CMembersRow : OpenClaim := { program := "ybulkors", sum := "0266bb8345d2013a47702041dccf72596c10de86e951807d8386a254bae8fec5", func := "example.com/reed/reed.LawS0759CMembers", spec := "lawS0759CMembers", plainKeys := false, apart := false }
def LawS0759CMembersSaid : Prop := lawS0759CMembersRow.holds Yba.pinned (OpenSpec.ofChange lawS0759CMembersSpec)

/-- ITS FALSE NEIGHBOUR: 'it returns false'. Refute it at one input. -/
def lawS0759CMembersWrong : ChangeSpec := { name := "lawS0759CMembers", fn := fun _ => fun
  | [d1, d2] => { results := [.lit (.bool false)], args := [d1, d2] }
  | _ => none }
def LawS0759CMembersWrongFalsely : Prop := lawS0759CMembersRow.holds Yba.pinned (OpenSpec.ofChange lawS0759CMembersWrong)

/-- 'reed.LawS0759CLen': WHATEVER THE INPUT: true; the input reads as it did. -/
def lawS0759CLenSpec : ChangeSpec := { name := "lawS0759CLen", fn := fun _ => fun
  | [d1, d2] => { results := [.lit (.bool true)], args := [d1, d2] }
  | _ => none }
def lawS0759CLenRow : OpenClaim := { program := "ybulkors", sum := "0266bb8345d2013a47702041dccf72596c10de86e951807d8386a254bae8fec5", func := "example.com/reed/reed.LawS0759CLen", spec := "lawS0759CLen", plainKeys := false, apart := false }
def LawS0759CLenSaid : Prop := lawS0759CLenRow.holds Yba.pinned (OpenSpec.ofChange lawS0759CLenSpec)

/-- ITS FALSE NEIGHBOUR: 'it returns false'. Refute it at one input. -/
def lawS0759CLenWrong : ChangeSpec := { name := "lawS0759CLen", fn := fun _ => fun
  | [d1, d2] => { results := [.lit (.bool false)], args := [d1, d2] }
  | _ => none }
def LawS0759CLenWrongFalsely : Prop := lawS0759CLenRow.holds Yba.pinned (OpenSpec.ofChange lawS0759CLenWrong)

end Rows
end Go.Proofs.Ybulkors
