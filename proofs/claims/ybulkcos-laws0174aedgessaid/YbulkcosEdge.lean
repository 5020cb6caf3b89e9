import Derived.Test.YbulkcosFloat
namespace Go.Proofs.Ybulkcos
set_option linter.unusedVariables false

/-- '==', '<', '>' of two float64 values, by their bits. -/
def feq (a b : Nat) : Bool := (FloatKind.format .f64).order a b == some .eq
def flt (a b : Nat) : Bool := (FloatKind.format .f64).order a b == some .lt
def fgt (a b : Nat) : Bool := (FloatKind.format .f64).order a b == some .gt

/-- What the law answers, given what Pow answered. -/
def lawTail (x y r : Nat) : Bool :=
  if feq x 4607182418800017408 || feq y 0 then feq r 4607182418800017408
  else if nanB x || nanB y || flt x 0 then nanB r
  else if feq x 0 then (if fgt y 0 then feq r 0 else fgt r 9218868437227405311)
  else if fgt x 9218868437227405311 then (if fgt y 0 then fgt r 9218868437227405311 else feq r 0)
  else true

theorem feq_nan (x c : Nat) (h : nanB x = true) : feq x c = false := by
  unfold nanB at h; unfold feq Ieee.Format.order
  cases hr : (FloatKind.format .f64).read x <;> rw [hr] at h <;> first | (cases h; done) | simp [Ieee.Datum.order]

theorem fgt_nan (x c : Nat) (h : nanB x = true) : fgt x c = false := by
  unfold nanB at h; unfold fgt Ieee.Format.order
  cases hr : (FloatKind.format .f64).read x <;> rw [hr] at h <;> first | (cases h; done) | simp [Ieee.Datum.order]

theorem feq_of_flt (x c : Nat) (h : flt x c = true) : feq x c = false := by
  unfold flt at h; unfold feq
  rw [beq_iff_eq] at h; rw [h]; rfl
theorem fgt_of_flt (x c : Nat) (h : flt x c = true) : fgt x c = false := by
  unfold flt at h; unfold fgt
  rw [beq_iff_eq] at h; rw [h]; rfl
theorem fgt_of_feq (x c : Nat) (h : feq x c = true) : fgt x c = false := by
  unfold feq at h; unfold fgt
  rw [beq_iff_eq] at h; rw [h]; rfl
theorem nan_of_feq (x c : Nat) (h : feq x c = true) : nanB x = false := by
  cases hn : nanB x with
  | false => rfl
  | true => rw [feq_nan x c hn] at h; cases h

theorem read_zero : (FloatKind.format .f64).read 0 = .number false 0 (-1074) := by decide
theorem read_max : (FloatKind.format .f64).read 9218868437227405311 = .number false 9007199254740991 971 := by decide
theorem read_posInf : (FloatKind.format .f64).read 9218868437227405312 = .infinity false := by decide
theorem read_negInf : (FloatKind.format .f64).read 18442240474082181120 = .infinity true := by decide
theorem write_posInf : (FloatKind.format .f64).write (.infinity false) = 9218868437227405312 := by decide
theorem write_negInf : (FloatKind.format .f64).write (.infinity true) = 18442240474082181120 := by decide

theorem shift_zero (n : Nat) : (0 : Nat) <<< n = 0 := by simp

/-- A number that is greater than zero has the sign + and is not zero; or it is +Inf. -/
theorem gt_zero (y : Nat) (h : fgt y 0 = true) : (∃ m i, m ≠ 0 ∧ (FloatKind.format .f64).read y = .number false m i) ∨ (FloatKind.format .f64).read y = .infinity false := by
  unfold fgt Ieee.Format.order at h
  rw [read_zero] at h
  cases hr : (FloatKind.format .f64).read y with
  | nan s f => rw [hr] at h; simp [Ieee.Datum.order] at h
  | infinity s => rw [hr] at h; cases s <;> simp [Ieee.Datum.order] at h ⊢
  | number s m i =>
    rw [hr] at h
    simp only [Ieee.Datum.order, Ieee.signed, shift_zero] at h
    left
    cases s with
    | true =>
      exfalso
      simp only [if_true, beq_iff_eq, Option.some.injEq] at h
      rw [Int.compare_eq_gt] at h
      generalize m <<< _ = q at h
      simp at h
      omega
    | false =>
      refine ⟨m, i, ?_, rfl⟩
      rintro rfl
      simp at h

theorem lt_zero (y : Nat) (h : flt y 0 = true) : (∃ m i, m ≠ 0 ∧ (FloatKind.format .f64).read y = .number true m i) ∨ (FloatKind.format .f64).read y = .infinity true := by
  unfold flt Ieee.Format.order at h
  rw [read_zero] at h
  cases hr : (FloatKind.format .f64).read y with
  | nan s f => rw [hr] at h; simp [Ieee.Datum.order] at h
  | infinity s => rw [hr] at h; cases s <;> simp [Ieee.Datum.order] at h ⊢
  | number s m i =>
    rw [hr] at h
    simp only [Ieee.Datum.order, Ieee.signed, shift_zero] at h
    left
    cases s with
    | false =>
      exfalso
      simp only [beq_iff_eq, Option.some.injEq] at h
      rw [Int.compare_eq_lt] at h
      generalize m <<< _ = q at h
      simp at h
      omega
    | true =>
      refine ⟨m, i, ?_, rfl⟩
      rintro rfl
      simp at h

/-- Neither a NaN, nor zero, nor greater: less than zero. -/
theorem lt_of_not (y : Nat) (hn : nanB y = false) (h0 : feq y 0 = false) (hg : fgt y 0 = false) : flt y 0 = true := by
  unfold nanB at hn
  unfold feq Ieee.Format.order at h0
  unfold fgt Ieee.Format.order at hg
  unfold flt Ieee.Format.order
  rw [read_zero] at *
  cases hr : (FloatKind.format .f64).read y with
  | nan s f => rw [hr] at hn; cases hn
  | infinity s => rw [hr] at hg; cases s <;> simp [Ieee.Datum.order] at hg ⊢
  | number s m i =>
    rw [hr] at h0 hg
    simp only [Ieee.Datum.order] at h0 hg ⊢
    generalize compare (Ieee.signed s m (i - min i (-1074)).toNat) (Ieee.signed false 0 (-1074 - min i (-1074)).toNat) = c at *
    cases c <;> simp at h0 hg ⊢

theorem mul_inf (y x : Nat) (s t : Bool) (hx : (FloatKind.format .f64).read x = .infinity t)
    (hy : (∃ m i, m ≠ 0 ∧ (FloatKind.format .f64).read y = .number s m i) ∨ (FloatKind.format .f64).read y = .infinity s) :
    floatBits .mul .f64 y x = some ((FloatKind.format .f64).write (.infinity (s ^^ t))) := by
  show Ieee.Format.mul _ _ _ = _
  unfold Ieee.Format.mul
  rcases hy with ⟨m, i, hm, hy⟩ | hy
  · rw [hx, hy]; simp [Ieee.Datum.product, hm, Bool.xor_comm]
  · rw [hx, hy]; simp [Ieee.Datum.product]

theorem read_finite (x : Nat) (s : Bool) (m : Nat) (i : Int) (h : (FloatKind.format .f64).read x = .number s m i) : m ≤ 9007199254740991 ∧ -1074 ≤ i ∧ i ≤ 971 := by
  rw [read_eq] at h
  split at h
  · cases h; omega
  · split at h
    · cases h; omega
    · split at h <;> cases h

theorem gt_max (x : Nat) (h : fgt x 9218868437227405311 = true) : (FloatKind.format .f64).read x = .infinity false := by
  unfold fgt Ieee.Format.order at h
  rw [read_max] at h
  cases hr : (FloatKind.format .f64).read x with
  | nan s f => rw [hr] at h; simp [Ieee.Datum.order] at h
  | infinity s => rw [hr] at h; cases s <;> simp [Ieee.Datum.order] at h ⊢
  | number s m i =>
    exfalso
    have hb := read_finite x s m i hr
    rw [hr] at h
    have e1 : min i 971 = i := by omega
    simp only [Ieee.Datum.order, e1, beq_iff_eq, Option.some.injEq, Int.sub_self] at h
    rw [Int.compare_eq_gt] at h
    have e2 : (Ieee.signed false 9007199254740991 (971 - i).toNat) = ((9007199254740991 * 2 ^ (971 - i).toNat : Nat) : Int) := by
      simp [Ieee.signed, Nat.shiftLeft_eq]
    have e3 : 1 ≤ 2 ^ (971 - i).toNat := Nat.one_le_two_pow
    have e4 : 9007199254740991 * 1 ≤ 9007199254740991 * 2 ^ (971 - i).toNat := Nat.mul_le_mul_left _ e3
    rw [e2] at h
    have e5 : Ieee.signed s m (0 : Int).toNat ≤ m := by cases s <;> simp [Ieee.signed] <;> omega
    omega

theorem inf_facts (x : Nat) (h : (FloatKind.format .f64).read x = .infinity false) : feq x 0 = false ∧ fgt x 0 = true := by
  unfold feq fgt Ieee.Format.order
  rw [h, read_zero]
  simp [Ieee.Datum.order]

theorem nan_log : nanB 9221120237041090561 = true := by decide

theorem floatBits_nan_right (op : BinOp) (x y : Nat) (h : nanB y = true) : floatBits op .f64 x y = none := by
  unfold nanB at h
  unfold floatBits
  cases hr : (FloatKind.format .f64).read y with
  | number s m i => rw [hr] at h; cases h
  | infinity s => rw [hr] at h; cases h
  | nan s f =>
    cases op <;> cases hx : (FloatKind.format .f64).read x <;> simp [Ieee.Format.add, Ieee.Format.sub, Ieee.Format.mul, Ieee.Format.div, hr, hx, Ieee.Datum.sum, Ieee.Datum.product, Ieee.Datum.quotient, Ieee.Datum.opposite]

end Go.Proofs.Ybulkcos
