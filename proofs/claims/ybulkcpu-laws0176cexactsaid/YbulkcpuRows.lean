/-
  No cell of these rows narrows 'for every input' (looked for: loops, veiled, ifaces, maps, wideKeys, modest, calm, conditions, laid).
  DERIVED. THE GIVEN ROWS OF THIS SEAT. 2 by the template 'for every input the law returns true; each argument reads behind the call as it read before'; 0 by the template 'total and deterministic' (their statements: YbulkcpuTotals.lean).
  GIVEN WITH THE SEED: the statements are not yours to turn. If you find one false, say at which input.
  Laid BY PROGRAM, IN A SANDBOX (cutbox-rows.mjs): the forced cells as the released guide's own fill.sh prints them over the translation 6548577871a40055… (all of the seat's roots in one cut). By AI agents, Wed Nov 11 2026. No macro, syntax, notation, axiom, sorry.
-/
import Derived.Test.YbulkcpuChecked
import GoSem.Claim
import GoSem.ClaimJoined
import GoSem.ClaimMapViews
import Derived.JoinedTies
import Derived.KernelRfl
namespace Go.Proofs.Ybulkcpu
/- THE CELL 'sum', in the pinned program and in every row, IS THE sha256 OF THE DUMP (.gsa) THAT YbulkcpuProg.lean LOADS. Nothing in Lean hashes anything: it is a label: what it is worth is what the hold of that sum in a sandbox is worth. -/
noncomputable def Yba.pinned : Pinned := { name := "ybulkcpu", sum := "6548577871a40055206f3016d5b1a2518c6d4111df737d7c3587e9d20c92f416", checked := Yba.checked }
namespace Rows
def none {H : Type} : Left H := { results := [], args := [] }

/-- 'agf.LawS0176BSkip': WHATEVER THE INPUT: true; the input reads as it did. -/
def lawS0176BSkipSpec : ChangeSpec := { name := "lawS0176BSkip", fn := fun _ => fun
  | [d1, d2, d3] => { results := [.lit (.bool true)], args := [d1, d2, d3] }
  | _ => none }
def lawS0176BSkipRow : OpenClaim := { program := "ybulkcpu", sum := "6548577871a40055206f3016d5b1a2518c6d4111df737d7c3587e9d20c92f416", func := "example.com/graphlex/graphlex/agf.LawS0176BSkip", spec := "lawS0176BSkip", apart := false }
def LawS0176BSkipSaid : Prop := lawS0176BSkipRow.holds Yba.pinned (OpenSpec.ofChange lawS0176BSkipSpec)

/-- ITS FALSE NEIGHBOUR: 'it returns false'. Refute it at one input. -/
def lawS0176BSkipWrong : ChangeSpec := { name := "lawS0176BSkip", fn := fun _ => fun
  | [d1, d2, d3] => { results := [.lit (.bool false)], args := [d1, d2, d3] }
  | _ => none }
def LawS0176BSkipWrongFalsely : Prop := lawS0176BSkipRow.holds Yba.pinned (OpenSpec.ofChange lawS0176BSkipWrong)

/-- 'ogdl.LawS0176CExact': WHATEVER THE INPUT: true; the input reads as it did. -/
def lawS0176CExactSpec : ChangeSpec := { name := "lawS0176CExact", fn := fun _ => fun
  | [d] => { results := [.lit (.bool true)], args := [d] }
  | _ => none }
def lawS0176CExactRow : OpenClaim := { program := "ybulkcpu", sum := "6548577871a40055206f3016d5b1a2518c6d4111df737d7c3587e9d20c92f416", func := "example.com/graphlex/graphlex/ogdl.LawS0176CExact", spec := "lawS0176CExact", unfollowed := true, recurses := true, apart := false }
def LawS0176CExactSaid : Prop := lawS0176CExactRow.holds Yba.pinned (OpenSpec.ofChange lawS0176CExactSpec)

/-- ITS FALSE NEIGHBOUR: 'it returns false'. Refute it at one input. -/
def lawS0176CExactWrong : ChangeSpec := { name := "lawS0176CExact", fn := fun _ => fun
  | [d] => { results := [.lit (.bool false)], args := [d] }
  | _ => none }
def LawS0176CExactWrongFalsely : Prop := lawS0176CExactRow.holds Yba.pinned (OpenSpec.ofChange lawS0176CExactWrong)

end Rows
end Go.Proofs.Ybulkcpu
