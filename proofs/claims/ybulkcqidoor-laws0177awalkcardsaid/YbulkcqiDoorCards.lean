/-
  DERIVED. GIVEN WITH THE SEED: THE CARDS: each row of YbulkcqiDoorRows.lean that lists a variable, with what it lists TIED to the program's text (the seventh form; the later family's looks); each row that meets fmt, with fmt's text TOLD by the authors' own Lean function (tested against real Go, not proved from fmt's source: count such statements apart). THE CARD IS WHAT COUNTS. Prove the row's statement (the work); the ties are given (YbulkcqiDoorTie.lean); close each card by the builder's one call (the guide's Derived/Test/ToyasCard.lean, 'card_holds'). Laid BY PROGRAM, IN A SANDBOX (cutbox-door.mjs). By AI agents, Wed Nov 11 2026. No macro, syntax, notation, axiom, sorry.
-/
import Derived.Test.YbulkcqiDoorRows
import GoSem.ClaimSeven
namespace Go.Proofs.YbulkcqiDoor
namespace Rows

/-- THE TIED CARD OF 'runlog.LawS0177AWalk'. -/
def lawS0177AWalkCard : Claim7 := { stood := { row := lawS0177AWalkRow, standIns := [], harness := (true, "ddde3e57b481cf5be31da4fc4cad80dddd34a9d6d36eaf88624f92b7f10696c2"), looks := false }, kinds := [], alts := [], laidByText := true, laidKinds := [.data], laidTests := true, laidLooks := .later }
def LawS0177AWalkCardSaid : Prop := Claim7.holds Ybad.pinned (.plain (OpenSpec.ofChange lawS0177AWalkSpec)) lawS0177AWalkCard
end Rows
end Go.Proofs.YbulkcqiDoor
