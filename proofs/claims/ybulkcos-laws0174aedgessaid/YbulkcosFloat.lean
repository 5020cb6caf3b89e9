import Derived.Test.YbulkcosRows
import Derived.WalkKit
import Derived.WalkSpells
import Derived.WalkLawsBesides
namespace Go.Proofs.Ybulkcos
open Go.RowKit
set_option linter.unusedVariables false

/-- A float64's bits are those of a NaN. -/
def nanB (b : Nat) : Bool := FloatKind.format .f64 |>.read b |>.isNaN

/-- The NaN that the tape gives for an operation without an answer. -/
def drawnNan (w : World) (x y : Nat) : Nat := Question.cut (.nanBits .f64 x y) (w.tape w.drawn (.nanBits .f64 x y))

theorem order_self_nan (b : Nat) : ((FloatKind.format .f64).order b b == some .eq) = !nanB b := by
  unfold Ieee.Format.order nanB
  cases h : (FloatKind.format .f64).read b with
  | number s m i => simp [Ieee.Datum.order, Ieee.Datum.isNaN]
  | infinity s => simp [Ieee.Datum.order, Ieee.Datum.isNaN]
  | nan s f => simp [Ieee.Datum.order, Ieee.Datum.isNaN]

theorem read_eq (b : Nat) : (FloatKind.format .f64).read b =
    if b % 9223372036854775808 < 4503599627370496 then .number (b / 9223372036854775808 % 2 == 1) (b % 9223372036854775808) (-1074)
    else if b % 9223372036854775808 < 9218868437227405312 then .number (b / 9223372036854775808 % 2 == 1) (4503599627370496 + b % 9223372036854775808 % 4503599627370496) (-1074 + (b % 9223372036854775808 / 4503599627370496 - 1 : Nat))
    else if b % 9223372036854775808 = 9218868437227405312 then .infinity (b / 9223372036854775808 % 2 == 1)
    else .nan (b / 9223372036854775808 % 2 == 1) (b % 9223372036854775808 - 9218868437227405312) := by
  have h1 : Ieee.Format.signWeight (FloatKind.format .f64) = 9223372036854775808 := by decide
  have h2 : Ieee.Format.binade (FloatKind.format .f64) = 4503599627370496 := by decide
  have h3 : Ieee.Format.infRung (FloatKind.format .f64) = 9218868437227405312 := by decide
  have h4 : Ieee.Format.leastPlace (FloatKind.format .f64) = -1074 := by decide
  unfold Ieee.Format.read
  simp only [h1, h2, h3, h4]

theorem nan_read (sgn q : Nat) (hs : sgn < 2) (hq : q < 2 ^ 52 - 1) : nanB (sgn * 2 ^ 63 + 0x7ff0000000000000 + 1 + q) = true := by
  unfold nanB
  rw [read_eq]
  have h1 : (sgn * 2 ^ 63 + 0x7ff0000000000000 + 1 + q) % 9223372036854775808 = 0x7ff0000000000000 + 1 + q := by omega
  rw [h1, if_neg (by omega), if_neg (by omega), if_neg (by omega)]
  rfl

theorem drawnNan_nan (w : World) (x y : Nat) : nanB (drawnNan w x y) = true := by
  unfold drawnNan Question.cut
  exact nan_read _ _ (Nat.mod_lt _ (by omega)) (Nat.mod_lt _ (by omega))

theorem floatBits_nan_left (op : BinOp) (x y : Nat) (h : nanB x = true) : floatBits op .f64 x y = none := by
  unfold nanB at h
  unfold floatBits
  cases hr : (FloatKind.format .f64).read x with
  | number s m i => rw [hr] at h; cases h
  | infinity s => rw [hr] at h; cases h
  | nan s f =>
    cases op <;> simp [Ieee.Format.add, Ieee.Format.sub, Ieee.Format.mul, Ieee.Format.div, hr, Ieee.Datum.sum, Ieee.Datum.product, Ieee.Datum.quotient]

theorem run_float_none {P : Program} (w : World) (op : BinOp) (t : TypeId) (x y : Nat) (ho : op = .add ∨ op = .sub ∨ op = .mul ∨ op = .quo) (h : floatBits op .f64 x y = none) :
    (binOp op t (.float .f64 x) (.float .f64 y)).run P w = .ok (.float .f64 (drawnNan w x y)) w.drew := by
  rcases ho with rfl | rfl | rfl | rfl <;> (unfold floatBits at h; simp only at h; simp [binOp, Op.floatArith, h, drawnNan, Question.forced])

end Go.Proofs.Ybulkcos
