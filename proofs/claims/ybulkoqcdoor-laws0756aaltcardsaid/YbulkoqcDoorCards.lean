/-
  DERIVED. GIVEN WITH THE SEED: THE CARDS: each row of YbulkoqcDoorRows.lean that lists a variable, with what it lists TIED to the program's text (the seventh form; the later family's looks); each row that meets fmt, with fmt's text TOLD by the authors' own Lean function (tested against real Go, not proved from fmt's source: count such statements apart). THE CARD IS WHAT COUNTS. Prove the row's statement (the work); the ties are given (YbulkoqcDoorTie.lean); close each card by the builder's one call (the guide's Derived/Test/ToyasCard.lean, 'card_holds'). Laid BY PROGRAM, IN A SANDBOX (cutbox-door.mjs). By AI agents, Wed Nov 11 2026. No macro, syntax, notation, axiom, sorry.
-/
import Derived.Test.YbulkoqcDoorRows
import GoSem.ClaimSeven
namespace Go.Proofs.YbulkoqcDoor
namespace Rows

/-- THE TIED CARD OF 'rules.LawS0756APlain'. -/
def lawS0756APlainCard : Claim7 := { stood := { row := lawS0756APlainRow, standIns := [], harness := (true, "4998f2dd1e3f3fc984da371a237accabd310de08781e684eac1050afd3b2caa6"), looks := false }, kinds := [], alts := [], laidByText := true, laidKinds := [.data], laidTests := true, laidLooks := .later }
def LawS0756APlainCardSaid : Prop := Claim7.holds Ybad.pinned (.plain (OpenSpec.ofChange lawS0756APlainSpec)) lawS0756APlainCard

/-- THE TIED CARD OF 'rules.LawS0756AAlt'. -/
def lawS0756AAltCard : Claim7 := { stood := { row := lawS0756AAltRow, standIns := [], harness := (true, "4998f2dd1e3f3fc984da371a237accabd310de08781e684eac1050afd3b2caa6"), looks := false }, kinds := [], alts := [], laidByText := true, laidKinds := [.data], laidTests := true, laidLooks := .later }
def LawS0756AAltCardSaid : Prop := Claim7.holds Ybad.pinned (.plain (OpenSpec.ofChange lawS0756AAltSpec)) lawS0756AAltCard
end Rows
end Go.Proofs.YbulkoqcDoor
