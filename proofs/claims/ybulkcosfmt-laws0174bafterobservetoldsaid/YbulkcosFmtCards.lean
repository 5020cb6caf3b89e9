/-
  DERIVED. GIVEN WITH THE SEED: THE CARDS: each row of YbulkcosFmtRows.lean that lists a variable, with what it lists TIED to the program's text (the seventh form; the later family's looks); each row that meets fmt, with fmt's text TOLD by the authors' own Lean function (tested against real Go, not proved from fmt's source: count such statements apart). THE CARD IS WHAT COUNTS. Prove the row's statement (the work); the ties are given (YbulkcosFmtTie.lean); close each card by the builder's one call (the guide's Derived/Test/ToyasCard.lean, 'card_holds'). Laid BY PROGRAM, IN A SANDBOX (cutbox-door.mjs). By AI agents, Wed Nov 11 2026. No macro, syntax, notation, axiom, sorry.
-/
import Derived.Test.YbulkcosFmtRows
import GoSem.ClaimSeven
namespace Go.Proofs.YbulkcosFmt
namespace Rows

/-- THE TOLD CARD OF 'forecast.LawS0174BAfterObserve'. -/
def lawS0174BAfterObserveCard : Claim7 := { stood := { row := lawS0174BAfterObserveRow, standIns := [], harness := (true, "806e4ae640e2c67087e4c29515c1541d5da620de49637118783db3b80482cda5"), looks := false }, told := true, goes := false }
def LawS0174BAfterObserveToldSaid : Prop := Claim7.holds Ybaf.pinned (.plain (OpenSpec.ofChange lawS0174BAfterObserveSpec)) lawS0174BAfterObserveCard
/-- ITS FALSE NEIGHBOUR. Refute it at one input. -/
def LawS0174BAfterObserveToldWrongFalsely : Prop := Claim7.holds Ybaf.pinned (.plain (OpenSpec.ofChange lawS0174BAfterObserveWrong)) lawS0174BAfterObserveCard
end Rows
end Go.Proofs.YbulkcosFmt
