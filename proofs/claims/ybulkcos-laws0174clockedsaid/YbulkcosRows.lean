/-
  No cell of these rows narrows 'for every input' (looked for: loops, veiled, ifaces, maps, wideKeys, modest, calm, conditions, laid).
  DERIVED. THE GIVEN ROWS OF THIS SEAT. 4 by the template 'for every input the law returns true; each argument reads behind the call as it read before'; 0 by the template 'total and deterministic' (their statements: YbulkcosTotals.lean).
  GIVEN WITH THE SEED: the statements are not yours to turn. If you find one false, say at which input.
  Laid BY PROGRAM, IN A SANDBOX (cutbox-rows.mjs): the forced cells as the released guide's own fill.sh prints them over the translation 9035aec88ee7eee3… (all of the seat's roots in one cut). By AI agents, Wed Nov 11 2026. No macro, syntax, notation, axiom, sorry.
-/
import Derived.Test.YbulkcosChecked
import GoSem.Claim
import GoSem.ClaimJoined
import GoSem.ClaimMapViews
import Derived.JoinedTies
import Derived.KernelRfl
namespace Go.Proofs.Ybulkcos
/- THE CELL 'sum', in the pinned program and in every row, IS THE sha256 OF THE DUMP (.gsa) THAT YbulkcosProg.lean LOADS. Nothing in Lean hashes anything: it is a label: what it is worth is what the hold of that sum in a sandbox is worth. -/
noncomputable def Yba.pinned : Pinned := { name := "ybulkcos", sum := "9035aec88ee7eee34d5cf11a8fea87c27c05b79c9210903298948a7ef16c0226", checked := Yba.checked }
namespace Rows
def none {H : Type} : Left H := { results := [], args := [] }

/-- 'bitexact.LawS0174AEdges': WHATEVER THE INPUT: true; the input reads as it did. -/
def lawS0174AEdgesSpec : ChangeSpec := { name := "lawS0174AEdges", fn := fun _ => fun
  | [d1, d2, d3] => { results := [.lit (.bool true)], args := [d1, d2, d3] }
  | _ => none }
def lawS0174AEdgesRow : OpenClaim := { program := "ybulkcos", sum := "9035aec88ee7eee34d5cf11a8fea87c27c05b79c9210903298948a7ef16c0226", func := "example.com/tackline/tackline/internal/bitexact.LawS0174AEdges", spec := "lawS0174AEdges", inPlace := ["math.Float64frombits", "math.Float64bits"], apart := false }
def LawS0174AEdgesSaid : Prop := lawS0174AEdgesRow.holds Yba.pinned (OpenSpec.ofChange lawS0174AEdgesSpec)

/-- ITS FALSE NEIGHBOUR: 'it returns false'. Refute it at one input. -/
def lawS0174AEdgesWrong : ChangeSpec := { name := "lawS0174AEdges", fn := fun _ => fun
  | [d1, d2, d3] => { results := [.lit (.bool false)], args := [d1, d2, d3] }
  | _ => none }
def LawS0174AEdgesWrongFalsely : Prop := lawS0174AEdgesRow.holds Yba.pinned (OpenSpec.ofChange lawS0174AEdgesWrong)

/-- 'bitexact.LawS0174ANonNeg': WHATEVER THE INPUT: true; the input reads as it did. -/
def lawS0174ANonNegSpec : ChangeSpec := { name := "lawS0174ANonNeg", fn := fun _ => fun
  | [d1, d2] => { results := [.lit (.bool true)], args := [d1, d2] }
  | _ => none }
def lawS0174ANonNegRow : OpenClaim := { program := "ybulkcos", sum := "9035aec88ee7eee34d5cf11a8fea87c27c05b79c9210903298948a7ef16c0226", func := "example.com/tackline/tackline/internal/bitexact.LawS0174ANonNeg", spec := "lawS0174ANonNeg", inPlace := ["math.Float64bits", "math.Float64frombits"], apart := false }
def LawS0174ANonNegSaid : Prop := lawS0174ANonNegRow.holds Yba.pinned (OpenSpec.ofChange lawS0174ANonNegSpec)

/-- ITS FALSE NEIGHBOUR: 'it returns false'. Refute it at one input. -/
def lawS0174ANonNegWrong : ChangeSpec := { name := "lawS0174ANonNeg", fn := fun _ => fun
  | [d1, d2] => { results := [.lit (.bool false)], args := [d1, d2] }
  | _ => none }
def LawS0174ANonNegWrongFalsely : Prop := lawS0174ANonNegRow.holds Yba.pinned (OpenSpec.ofChange lawS0174ANonNegWrong)

/-- 'forecast.LawS0174BExact': WHATEVER THE INPUT: true; the input reads as it did. -/
def lawS0174BExactSpec : ChangeSpec := { name := "lawS0174BExact", fn := fun _ => fun
  | [d1, d2] => { results := [.lit (.bool true)], args := [d1, d2] }
  | _ => none }
def lawS0174BExactRow : OpenClaim := { program := "ybulkcos", sum := "9035aec88ee7eee34d5cf11a8fea87c27c05b79c9210903298948a7ef16c0226", func := "example.com/tackline/tackline/forecast.LawS0174BExact", spec := "lawS0174BExact", inPlace := ["math.Float64bits"], apart := false }
def LawS0174BExactSaid : Prop := lawS0174BExactRow.holds Yba.pinned (OpenSpec.ofChange lawS0174BExactSpec)

/-- ITS FALSE NEIGHBOUR: 'it returns false'. Refute it at one input. -/
def lawS0174BExactWrong : ChangeSpec := { name := "lawS0174BExact", fn := fun _ => fun
  | [d1, d2] => { results := [.lit (.bool false)], args := [d1, d2] }
  | _ => none }
def LawS0174BExactWrongFalsely : Prop := lawS0174BExactRow.holds Yba.pinned (OpenSpec.ofChange lawS0174BExactWrong)

/-- 'tackline.LawS0174CLocked': WHATEVER THE INPUT: true; the input reads as it did. -/
def lawS0174CLockedSpec : ChangeSpec := { name := "lawS0174CLocked", fn := fun _ => fun
  | [d1, d2] => { results := [.lit (.bool true)], args := [d1, d2] }
  | _ => none }
def lawS0174CLockedRow : OpenClaim := { program := "ybulkcos", sum := "9035aec88ee7eee34d5cf11a8fea87c27c05b79c9210903298948a7ef16c0226", func := "example.com/tackline/tackline.LawS0174CLocked", spec := "lawS0174CLocked", inPlace := ["sync/atomic.StoreInt64", "sync/atomic.LoadInt64", "(*internal/sync.Mutex).Lock", "internal/race.Disable", "sync/atomic.CompareAndSwapInt32", "internal/race.Enable", "internal/race.Acquire", "(*internal/sync.Mutex).lockSlow", "internal/sync.runtime_canSpin", "internal/sync.runtime_doSpin", "internal/sync.throw", "internal/sync.runtime_nanotime", "internal/sync.runtime_SemacquireMutex", "sync/atomic.AddInt32", "(*internal/sync.Mutex).Unlock", "internal/race.ReleaseMerge", "(*internal/sync.Mutex).unlockSlow", "internal/sync.fatal", "internal/sync.runtime_Semrelease", "(*internal/sync.Mutex).TryLock"], unfollowed := true, recurses := true, apart := false }
def LawS0174CLockedSaid : Prop := lawS0174CLockedRow.holds Yba.pinned (OpenSpec.ofChange lawS0174CLockedSpec)

/-- ITS FALSE NEIGHBOUR: 'it returns false'. Refute it at one input. -/
def lawS0174CLockedWrong : ChangeSpec := { name := "lawS0174CLocked", fn := fun _ => fun
  | [d1, d2] => { results := [.lit (.bool false)], args := [d1, d2] }
  | _ => none }
def LawS0174CLockedWrongFalsely : Prop := lawS0174CLockedRow.holds Yba.pinned (OpenSpec.ofChange lawS0174CLockedWrong)

end Rows
end Go.Proofs.Ybulkcos
