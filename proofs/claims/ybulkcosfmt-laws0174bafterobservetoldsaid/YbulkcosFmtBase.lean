import Derived.Test.YbulkcosFmtRows
import Derived.WalkKit
import Derived.WalkSpells
import Derived.WalkLawsBesides
import Derived.Deep.QuietTactic
import Derived.BigQuiet
import Derived.Deep.RegionWith
namespace Go.Proofs.YbulkcosFmt
open Go.RowKit
set_option linter.unusedVariables false
set_option linter.unusedSimpArgs false

/-! ### Floats: bits, NaNs, what an operation may answer -/

/-- A float64's bits are those of a NaN. -/
def nanB (b : Nat) : Bool := FloatKind.format .f64 |>.read b |>.isNaN

/-- The NaN that the tape gives for an operation without an answer. -/
def drawnNan (w : World) (x y : Nat) : Nat := Question.cut (.nanBits .f64 x y) (w.tape w.drawn (.nanBits .f64 x y))

theorem order_self_nan (b : Nat) : ((FloatKind.format .f64).order b b == some .eq) = !nanB b := by
  unfold Ieee.Format.order nanB
  cases h : (FloatKind.format .f64).read b with
  | number s m i => simp [Ieee.Datum.order, Ieee.Datum.isNaN]
  | infinity s => simp [Ieee.Datum.order, Ieee.Datum.isNaN]
  | nan s f => simp [Ieee.Datum.order, Ieee.Datum.isNaN]

theorem read_eq (b : Nat) : (FloatKind.format .f64).read b =
    if b % 9223372036854775808 < 4503599627370496 then .number (b / 9223372036854775808 % 2 == 1) (b % 9223372036854775808) (-1074)
    else if b % 9223372036854775808 < 9218868437227405312 then .number (b / 9223372036854775808 % 2 == 1) (4503599627370496 + b % 9223372036854775808 % 4503599627370496) (-1074 + (b % 9223372036854775808 / 4503599627370496 - 1 : Nat))
    else if b % 9223372036854775808 = 9218868437227405312 then .infinity (b / 9223372036854775808 % 2 == 1)
    else .nan (b / 9223372036854775808 % 2 == 1) (b % 9223372036854775808 - 9218868437227405312) := by
  have h1 : Ieee.Format.signWeight (FloatKind.format .f64) = 9223372036854775808 := by decide
  have h2 : Ieee.Format.binade (FloatKind.format .f64) = 4503599627370496 := by decide
  have h3 : Ieee.Format.infRung (FloatKind.format .f64) = 9218868437227405312 := by decide
  have h4 : Ieee.Format.leastPlace (FloatKind.format .f64) = -1074 := by decide
  unfold Ieee.Format.read
  simp only [h1, h2, h3, h4]

theorem nanB_eq (b : Nat) : nanB b = decide (9218868437227405312 < b % 9223372036854775808) := by
  unfold nanB
  rw [read_eq]
  by_cases h1 : b % 9223372036854775808 < 4503599627370496
  · rw [if_pos h1]; rw [decide_eq_false (by omega)]; rfl
  · rw [if_neg h1]
    by_cases h2 : b % 9223372036854775808 < 9218868437227405312
    · rw [if_pos h2]; rw [decide_eq_false (by omega)]; rfl
    · rw [if_neg h2]
      by_cases h3 : b % 9223372036854775808 = 9218868437227405312
      · rw [if_pos h3]; rw [decide_eq_false (by omega)]; rfl
      · rw [if_neg h3]; rw [decide_eq_true (by omega)]; rfl

theorem nan_read (s q : Nat) (hs : s < 2) (hq : q < 2 ^ 52 - 1) : nanB (s * 2 ^ 63 + 0x7ff0000000000000 + 1 + q) = true := by
  rw [nanB_eq]
  simp only [decide_eq_true_eq]
  omega

theorem drawnNan_nan (w : World) (x y : Nat) : nanB (drawnNan w x y) = true := by
  unfold drawnNan Question.cut
  exact nan_read _ _ (Nat.mod_lt _ (by omega)) (Nat.mod_lt _ (by omega))

theorem floatBits_nan_left (op : BinOp) (x y : Nat) (h : nanB x = true) : floatBits op .f64 x y = none := by
  unfold nanB at h
  unfold floatBits
  cases hr : (FloatKind.format .f64).read x with
  | number s m i => rw [hr] at h; cases h
  | infinity s => rw [hr] at h; cases h
  | nan s f =>
    cases op <;> simp [Ieee.Format.add, Ieee.Format.sub, Ieee.Format.mul, Ieee.Format.div, hr, Ieee.Datum.sum, Ieee.Datum.product, Ieee.Datum.quotient]

theorem floatBits_nan_right (op : BinOp) (x y : Nat) (h : nanB y = true) : floatBits op .f64 x y = none := by
  unfold nanB at h
  unfold floatBits
  cases hr : (FloatKind.format .f64).read y with
  | number s m i => rw [hr] at h; cases h
  | infinity s => rw [hr] at h; cases h
  | nan s f =>
    cases op <;> cases hx : (FloatKind.format .f64).read x <;> simp [Ieee.Format.add, Ieee.Format.sub, Ieee.Format.mul, Ieee.Format.div, hr, hx, Ieee.Datum.sum, Ieee.Datum.product, Ieee.Datum.quotient, Ieee.Datum.opposite]

theorem run_float_none {P : Program} (w : World) (op : BinOp) (t : TypeId) (x y : Nat) (ho : op = .add ∨ op = .sub ∨ op = .mul ∨ op = .quo) (h : floatBits op .f64 x y = none) :
    (binOp op t (.float .f64 x) (.float .f64 y)).run P w = .ok (.float .f64 (drawnNan w x y)) w.drew := by
  rcases ho with rfl | rfl | rfl | rfl <;> (unfold floatBits at h; simp only at h; simp [binOp, Op.floatArith, h, drawnNan, Question.forced])

/-- r is an answer of 'x op y': the rounded one; where there is none, some NaN. -/
def OpRel (op : BinOp) (x y r : Nat) : Prop := floatBits op .f64 x y = some r ∨ (floatBits op .f64 x y = none ∧ nanB r = true)

/-- The same float, as zzs0174bsame asks: the same bits, or both NaNs. -/
def Eqv (a b : Nat) : Prop := a = b ∨ (nanB a = true ∧ nanB b = true)

theorem OpRel.eqv {op : BinOp} {x y x' y' r r' : Nat} (h : OpRel op x y r) (h' : OpRel op x' y' r') (hx : Eqv x x') (hy : Eqv y y') : Eqv r r' := by
  have key : floatBits op .f64 x y = floatBits op .f64 x' y' := by
    rcases hx with rfl | ⟨h1, h2⟩
    · rcases hy with rfl | ⟨h3, h4⟩
      · rfl
      · rw [floatBits_nan_right _ _ _ h3, floatBits_nan_right _ _ _ h4]
    · rw [floatBits_nan_left _ _ _ h1, floatBits_nan_left _ _ _ h2]
  rcases h with h | ⟨h, hn⟩
  · rcases h' with h' | ⟨h', hn'⟩
    · left; rw [key, h'] at h; exact (Option.some.inj h).symm
    · rw [key, h'] at h; cases h
  · rcases h' with h' | ⟨h', hn'⟩
    · rw [key, h'] at h; cases h
    · exact .inr ⟨hn, hn'⟩

theorem float_op (P : Program) (op : BinOp) (ho : op = .add ∨ op = .sub ∨ op = .mul ∨ op = .quo) : ∃ (v d : World → TypeId → Nat → Nat → Nat),
    (∀ w t x y, (binOp op t (.float .f64 x) (.float .f64 y)).run P w = .ok (.float .f64 (v w t x y)) (w.drewN (d w t x y))) ∧ Hid (∀ w t x y, OpRel op x y (v w t x y)) := by
  have h : ∀ w t x y, ∃ v d : Nat, (binOp op t (.float .f64 x) (.float .f64 y)).run P w = .ok (.float .f64 v) (w.drewN d) ∧ OpRel op x y v := by
    intro w t x y
    cases h : floatBits op .f64 x y with
    | none => exact ⟨_, 1, run_float_none w op t x y ho h, .inr ⟨h, drawnNan_nan _ _ _⟩⟩
    | some r => exact ⟨_, 0, run_float_arith w op t .f64 x y r h, .inl h⟩
  exact ⟨fun w t x y => (h w t x y).choose, fun w t x y => (h w t x y).choose_spec.choose, fun w t x y => (h w t x y).choose_spec.choose_spec.1, fun w t x y => (h w t x y).choose_spec.choose_spec.2⟩

theorem float_min (P : Program) : ∃ (v d : World → Nat → Nat → Nat),
    ∀ (w : World) (ts : Array TypeId) (t : TypeId) (x y : Nat), (Builtin.min_ ts t #[.float .f64 x, .float .f64 y]).run P w = .ok (.float .f64 (v w x y)) (w.drewN (d w x y)) := by
  have h : ∀ (w : World) (x y : Nat), ∃ v d : Nat, (Builtin.min2 (.float .f64 x) (.float .f64 y)).run P w = .ok (.float .f64 v) (w.drewN d) := by
    intro w x y
    unfold Builtin.min2
    simp only
    split
    · exact ⟨_, 1, rfl⟩
    · exact ⟨_, 0, rfl⟩
    · exact ⟨_, 0, rfl⟩
    · exact ⟨_, 0, rfl⟩
  refine ⟨fun w x y => (h w x y).choose, fun w x y => (h w x y).choose_spec.choose, fun w ts t x y => ?_⟩
  have e : (Builtin.min_ ts t #[.float .f64 x, .float .f64 y]).run P w = (Builtin.min2 (.float .f64 x) (.float .f64 y)).run P w := by
    simp [Builtin.min_]
  rw [e]
  exact (h w x y).choose_spec.choose_spec

theorem float_max (P : Program) : ∃ (v d : World → Nat → Nat → Nat),
    ∀ (w : World) (ts : Array TypeId) (t : TypeId) (x y : Nat), (Builtin.max_ ts t #[.float .f64 x, .float .f64 y]).run P w = .ok (.float .f64 (v w x y)) (w.drewN (d w x y)) := by
  have h : ∀ (w : World) (x y : Nat), ∃ v d : Nat, (Builtin.max2 (.float .f64 x) (.float .f64 y)).run P w = .ok (.float .f64 v) (w.drewN d) := by
    intro w x y
    unfold Builtin.max2
    simp only
    split
    · exact ⟨_, 1, rfl⟩
    · exact ⟨_, 0, rfl⟩
    · exact ⟨_, 0, rfl⟩
    · exact ⟨_, 0, rfl⟩
  refine ⟨fun w x y => (h w x y).choose, fun w x y => (h w x y).choose_spec.choose, fun w ts t x y => ?_⟩
  have e : (Builtin.max_ ts t #[.float .f64 x, .float .f64 y]).run P w = (Builtin.max2 (.float .f64 x) (.float .f64 y)).run P w := by
    simp [Builtin.max_]
  rw [e]
  exact (h w x y).choose_spec.choose_spec

/-- The absolute value: the sign bit struck. -/
def absB (b : Nat) : Nat := b % 9223372036854775808

theorem abs_bits (b : Nat) : bits .andNot .u64 (b : Int) 9223372036854775808 = ((absB b : Nat) : Int) := by
  show IntKind.wrap .u64 (((BitVec.ofInt 64 (b : Int) &&& ~~~BitVec.ofInt 64 9223372036854775808).toNat : Nat) : Int) = ((b % 9223372036854775808 : Nat) : Int)
  have h1 : (BitVec.ofInt 64 (b : Int) &&& ~~~BitVec.ofInt 64 9223372036854775808).toNat = b % 9223372036854775808 := by
    have e1 : ~~~BitVec.ofInt 64 9223372036854775808 = BitVec.ofNat 64 9223372036854775807 := by decide
    rw [e1, BitVec.toNat_and]
    have e2 : (BitVec.ofInt 64 (b : Int)).toNat = b % 18446744073709551616 := by simp
    have e3 : (BitVec.ofNat 64 9223372036854775807).toNat = 2 ^ 63 - 1 := by decide
    rw [e2, e3, Nat.and_two_pow_sub_one_eq_mod]
    omega
  rw [h1]
  have h2 : IntKind.wrap .u64 ((b % 9223372036854775808 : Nat) : Int) = ((b % 9223372036854775808 : Nat) : Int) := by
    rw [IntKind.wrap_u64]
    omega
  exact h2

theorem absB_nan (b : Nat) : nanB (absB b) = nanB b := by
  rw [nanB_eq, nanB_eq]
  unfold absB
  rw [Nat.mod_mod]

theorem Eqv.abs {a b : Nat} (h : Eqv a b) : Eqv (absB a) (absB b) := by
  rcases h with rfl | ⟨h1, h2⟩
  · exact .inl rfl
  · exact .inr ⟨by rw [absB_nan]; exact h1, by rw [absB_nan]; exact h2⟩

/-! ### The small functions -/

theorem f64bits (b : Nat) (w : World) : (callFunc 9 #[.float .f64 b]).run Ybaf.prog w = .ok (.value (.int .u64 b)) w := by
  rw [run_callFunc_extern (e := Extern.MathFloatBits.float64bits) Ybaf.func9 (by kernel_rfl) (by kernel_rfl) (by kernel_rfl) (by kernel_rfl)]
  rfl

theorem f64from (n : Int) (w : World) : (callFunc 8 #[.int .u64 n]).run Ybaf.prog w = .ok (.value (.float .f64 n.toNat)) w := by
  rw [run_callFunc_extern (e := Extern.MathFloatBits.float64frombits) Ybaf.func8 (by kernel_rfl) (by kernel_rfl) (by kernel_rfl) (by kernel_rfl)]
  rfl

theorem isNaN_any (b : Nat) (w : World) :
    Calls Ybaf.prog 16 #[.float .f64 b] w fun e w' => e = .returned (.bool (nanB b)) ∧ w = w' := by
  have h := order_self_nan b
  have h' : ((FloatKind.format .f64).order b b != some .eq) = nanB b := by unfold bne; rw [h]; simp
  go_enter Ybaf.func16, Ybaf.ntmps16
  go_wp2
  go_ret
  exact ⟨by simp, rfl⟩

set_option maxHeartbeats 400000 in
theorem abs_any (b : Nat) (w : World) : Calls Ybaf.prog 4 #[.float .f64 b] w fun e w' => e = .returned (.float .f64 (absB b)) ∧ w = w' := by
  have h1 := f64bits; have h2 := f64from
  have h3 := abs_bits b
  go_enter Ybaf.func4, Ybaf.ntmps4
  go_wp2
  go_ret
  exact ⟨by simp, rfl⟩

set_option maxHeartbeats 400000 in
theorem same_nan (a b : Nat) (w : World) (ha : nanB a = true) (hb : nanB b = true) :
    Calls Ybaf.prog 7 #[.float .f64 a, .float .f64 b] w fun e w' => e = .returned (.bool true) ∧ w = w' := by
  go_enter Ybaf.func7, Ybaf.ntmps7
  go_wp2_with (go_at_call 16; refine (isNaN_any _ _).mono ?_; rintro e w' ⟨rfl, rfl⟩)
  go_ret
  exact ⟨rfl, rfl⟩

set_option maxHeartbeats 400000 in
theorem same_refl (a : Nat) (w : World) :
    Calls Ybaf.prog 7 #[.float .f64 a, .float .f64 a] w fun e w' => e = .returned (.bool true) ∧ w = w' := by
  cases ha : nanB a
  · have hf := f64bits a
    go_enter Ybaf.func7, Ybaf.ntmps7
    go_wp2_with (go_at_call 16; refine (isNaN_any _ _).mono ?_; rintro e w' ⟨rfl, rfl⟩)
    go_ret
    exact ⟨by simp, rfl⟩
  · exact same_nan a a w ha ha

theorem same_eqv (a b : Nat) (w : World) (h : Eqv a b) :
    Calls Ybaf.prog 7 #[.float .f64 a, .float .f64 b] w fun e w' => e = .returned (.bool true) ∧ w = w' := by
  rcases h with rfl | ⟨h1, h2⟩
  · exact same_refl a w
  · exact same_nan a b w h1 h2

set_option maxHeartbeats 400000 in
theorem dev_zero (b e o : Nat) (w : World) (he : w.cell? ⟨b, 13, none⟩ = some (.float .f64 e)) (ho : w.cell? ⟨b, 14, none⟩ = some (.float .f64 o))
    (hz : ((FloatKind.format .f64).order o 0 == some .eq) = true) :
    Calls Ybaf.prog 6 #[.pointer (some ⟨b, 0, none⟩)] w fun e w' => e = .returned (.tuple #[.float .f64 0, .bool false]) ∧ w = w' := by
  go_enter Ybaf.func6, Ybaf.ntmps6
  go_wp2
  go_ret2
  exact ⟨rfl, rfl⟩

set_option maxHeartbeats 400000 in
theorem dev_any (b e o : Nat) (w : World) (he : w.cell? ⟨b, 13, none⟩ = some (.float .f64 e)) (ho : w.cell? ⟨b, 14, none⟩ = some (.float .f64 o))
    (hz : ((FloatKind.format .f64).order o 0 == some .eq) = false) :
    Calls Ybaf.prog 6 #[.pointer (some ⟨b, 0, none⟩)] w fun x w' => ∃ m r n, x = .returned (.tuple #[.float .f64 r, .bool true]) ∧ OpRel .mul 4636737291354636288 e m ∧ OpRel .quo m o r ∧ w' = w.drewN n := by
  obtain ⟨fm, dm, hm, rm⟩ := float_op Ybaf.prog .mul (by simp)
  obtain ⟨fq, dq, hq, rq⟩ := float_op Ybaf.prog .quo (by simp)
  go_enter Ybaf.func6, Ybaf.ntmps6
  go_wp2
  go_region
  all_goals (go_wp2; go_ret2; exact ⟨_, _, _, rfl, rm.out _ _ _ _, rq.out _ _ _ _, rfl⟩)

end Go.Proofs.YbulkcosFmt
