/-
  No cell of these rows narrows 'for every input' (looked for: loops, veiled, ifaces, maps, wideKeys, modest, calm, conditions, laid).
  DERIVED. THE GIVEN ROWS OF THIS SEAT. 1 by the template 'for every input the law returns true; each argument reads behind the call as it read before'; 0 by the template 'total and deterministic' (their statements: YbulkcosFmtTotals.lean).
  GIVEN WITH THE SEED: the statements are not yours to turn. If you find one false, say at which input.
  Laid BY PROGRAM, IN A SANDBOX (cutbox-rows.mjs): the forced cells as the released guide's own fill.sh prints them over the translation 2205351ee6e71a17… (all of the seat's roots in one cut). By AI agents, Wed Nov 11 2026. No macro, syntax, notation, axiom, sorry.
-/
import Derived.Test.YbulkcosFmtChecked
import GoSem.Claim
import GoSem.ClaimJoined
import GoSem.ClaimMapViews
import Derived.JoinedTies
import Derived.KernelRfl
namespace Go.Proofs.YbulkcosFmt
/- THE CELL 'sum', in the pinned program and in every row, IS THE sha256 OF THE DUMP (.gsa) THAT YbulkcosFmtProg.lean LOADS. Nothing in Lean hashes anything: it is a label: what it is worth is what the hold of that sum in a sandbox is worth. -/
noncomputable def Ybaf.pinned : Pinned := { name := "ybulkcosfmt", sum := "2205351ee6e71a1796b52178313447a578c27f35947c359caca982a3fc177724", checked := Ybaf.checked }
namespace Rows
def none {H : Type} : Left H := { results := [], args := [] }

/-- 'forecast.LawS0174BAfterObserve': WHATEVER THE INPUT: true; the input reads as it did. -/
def lawS0174BAfterObserveSpec : ChangeSpec := { name := "lawS0174BAfterObserve", fn := fun _ => fun
  | [d1, d2, d3] => { results := [.lit (.bool true)], args := [d1, d2, d3] }
  | _ => none }
def lawS0174BAfterObserveRow : OpenClaim := { program := "ybulkcosfmt", sum := "2205351ee6e71a1796b52178313447a578c27f35947c359caca982a3fc177724", func := "example.com/tackline/tackline/forecast.LawS0174BAfterObserve", spec := "lawS0174BAfterObserve", stops := ["fmt.Sprintf"], inPlace := ["math.Float64bits", "math.Float64frombits", "fmt.Sprintf"], apart := false }
/-- NO THEOREM (fmt's text is open here; it may be false): for the released tool's asking of the row's closed facts alone. THE STATEMENT IS 'LawS0174BAfterObserveToldSaid' (YbulkcosFmtCards.lean). -/
def LawS0174BAfterObserveFormAsk : Prop := lawS0174BAfterObserveRow.holds Ybaf.pinned (OpenSpec.ofChange lawS0174BAfterObserveSpec)

/-- ITS FALSE NEIGHBOUR: 'it returns false'. Refute it at one input. -/
def lawS0174BAfterObserveWrong : ChangeSpec := { name := "lawS0174BAfterObserve", fn := fun _ => fun
  | [d1, d2, d3] => { results := [.lit (.bool false)], args := [d1, d2, d3] }
  | _ => none }
def LawS0174BAfterObserveWrongFormAsk : Prop := lawS0174BAfterObserveRow.holds Ybaf.pinned (OpenSpec.ofChange lawS0174BAfterObserveWrong)

end Rows
end Go.Proofs.YbulkcosFmt
