import Derived.Test.YbulkcosBExactWalks
import Derived.Deep.RegionWith
namespace Go.Proofs.Ybulkcos
open Go.RowKit
set_option linter.unusedVariables false

theorem float_op (P : Program) (op : BinOp) (ho : op = .add ∨ op = .sub ∨ op = .mul ∨ op = .quo) : ∃ (v d : World → TypeId → Nat → Nat → Nat),
    ∀ w t x y, (binOp op t (.float .f64 x) (.float .f64 y)).run P w = .ok (.float .f64 (v w t x y)) (w.drewN (d w t x y)) := by
  have h : ∀ w t x y, ∃ v d : Nat, (binOp op t (.float .f64 x) (.float .f64 y)).run P w = .ok (.float .f64 v) (w.drewN d) := by
    intro w t x y
    cases h : floatBits op .f64 x y with
    | none => exact ⟨_, 1, run_float_none w op t x y ho h⟩
    | some r => exact ⟨_, 0, run_float_arith w op t .f64 x y r h⟩
  refine ⟨fun w t x y => (h w t x y).choose, fun w t x y => (h w t x y).choose_spec.choose, fun w t x y => (h w t x y).choose_spec.choose_spec⟩

theorem float_int (P : Program) (src dst : TypeId) (hs : (P.underlying src).isSome = true) (hd : P.underlying dst = some (.int .i64)) : ∃ (v : World → Nat → Int) (d : World → Nat → Nat),
    ∀ w x, (convert src dst (.float .f64 x)).run P w = .ok (.int .i64 (v w x)) (w.drewN (d w x)) := by
  have h : ∀ w x, ∃ (v : Int) (d : Nat), (convert src dst (.float .f64 x)).run P w = .ok (.int .i64 v) (w.drewN d) := by
    intro w x
    have e : (convert src dst (.float .f64 x)).run P w = (Conv.floatToInt .f64 x .i64).run P w := by
      obtain ⟨u, hs'⟩ := Option.isSome_iff_exists.1 hs
      cases u <;> simp [convert, run_underlying hs', run_underlying hd]
    rw [e]
    unfold Conv.floatToInt
    split
    · split
      · exact ⟨_, 0, rfl⟩
      · exact ⟨_, 1, rfl⟩
    · exact ⟨_, 1, rfl⟩
  refine ⟨fun w x => (h w x).choose, fun w x => (h w x).choose_spec.choose, fun w x => (h w x).choose_spec.choose_spec⟩

theorem f64from (n : Int) (w : World) : (callFunc 20 #[.int .u64 n]).run Yba.prog w = .ok (.value (.float .f64 n.toNat)) w := by
  rw [run_callFunc_extern (e := Extern.MathFloatBits.float64frombits) Yba.func20 (by kernel_rfl) (by kernel_rfl) (by kernel_rfl) (by kernel_rfl)]
  rfl

theorem neg_float (b : Nat) (w : World) : (Op.unary .neg (.float .f64 b)).run Yba.prog w = .ok (.float .f64 (Op.negFloat .f64 b)) w := rfl

set_option maxHeartbeats 400000 in
theorem abs_any (b : Nat) (w : World) : Calls Yba.prog 8 #[.float .f64 b] w fun e w' => ∃ r, e = .returned (.float .f64 r) ∧ w = w' := by
  have h1 := f64bits; have h2 := f64from
  go_enter Yba.func8, Yba.ntmps8
  go_wp2
  go_ret
  exact ⟨_, rfl, rfl⟩

set_option maxHeartbeats 400000 in
theorem inf_pos (w : World) : Calls Yba.prog 7 #[.int .i64 1] w fun e w' => e = .returned (.float .f64 9218868437227405312) ∧ w = w' := by
  have h2 := f64from
  go_enter Yba.func7, Yba.ntmps7
  go_wp2
  go_ret
  exact ⟨rfl, rfl⟩

set_option maxHeartbeats 400000 in
theorem inf_neg (w : World) : Calls Yba.prog 7 #[.int .i64 (-1)] w fun e w' => e = .returned (.float .f64 18442240474082181120) ∧ w = w' := by
  have h2 := f64from
  go_enter Yba.func7, Yba.ntmps7
  go_wp2
  go_ret
  exact ⟨rfl, rfl⟩

set_option maxHeartbeats 400000 in
theorem nan_any (w : World) : Calls Yba.prog 32 #[] w fun e w' => e = .returned (.float .f64 9221120237041090561) ∧ w = w' := by
  have h2 := f64from
  go_enter Yba.func32, Yba.ntmps32
  go_wp2
  go_ret
  exact ⟨rfl, rfl⟩

set_option maxHeartbeats 400000 in
theorem isInf_pos (b : Nat) (w : World) : Calls Yba.prog 11 #[.float .f64 b, .int .i64 1] w fun e w' => e = .returned (.bool ((FloatKind.format .f64).order b 9218868437227405311 == some .gt)) ∧ w = w' := by
  go_enter Yba.func11, Yba.ntmps11
  go_wp2
  go_ret
  exact ⟨rfl, rfl⟩

set_option maxHeartbeats 400000 in
theorem isInf_any (b : Nat) (w : World) : Calls Yba.prog 11 #[.float .f64 b, .int .i64 0] w fun e w' => ∃ t, e = .returned (.bool t) ∧ w = w' := by
  go_enter Yba.func11, Yba.ntmps11
  go_wp2_with (go_at_call 8; refine (abs_any _ _).mono ?_; rintro e w' ⟨r, rfl, rfl⟩)
  go_ret
  exact ⟨_, rfl, rfl⟩

set_option maxHeartbeats 400000 in
theorem copysign_any (a b : Nat) (w : World) : Calls Yba.prog 51 #[.float .f64 a, .float .f64 b] w fun e w' => ∃ r, e = .returned (.float .f64 r) ∧ w = w' := by
  have h1 := f64bits; have h2 := f64from
  go_enter Yba.func51, Yba.ntmps51
  go_wp2
  go_ret
  exact ⟨_, rfl, rfl⟩

set_option maxHeartbeats 400000 in
theorem normalize_any (b : Nat) (w : World) : Calls Yba.prog 50 #[.float .f64 b] w fun e w' => ∃ r k n, e = .returned (.tuple #[.float .f64 r, .int .i64 k]) ∧ w' = w.drewN n := by
  obtain ⟨fm, dm, hm⟩ := float_op Yba.prog .mul (by simp)
  go_enter Yba.func50, Yba.ntmps50
  go_wp2_with (go_at_call 8; refine (abs_any _ _).mono ?_; rintro e w' ⟨r, rfl, rfl⟩)
  · go_ret2
    exact ⟨_, _, _, rfl, rfl⟩
  · go_ret2
    exact ⟨_, _, 0, rfl, rfl⟩

set_option maxRecDepth 100000 in
set_option maxHeartbeats 400000 in
theorem round_any (b : Nat) (w : World) : Calls Yba.prog 30 #[.float .f64 b] w fun e w' => ∃ r, e = .returned (.float .f64 r) ∧ w = w' := by
  have h1 := f64bits; have h2 := f64from
  go_enter Yba.func30, Yba.ntmps30
  go_wp2
  all_goals (go_ret; exact ⟨_, rfl, rfl⟩)

set_option maxRecDepth 100000 in
set_option maxHeartbeats 1000000 in
theorem frexp_any (b : Nat) (w : World) : Calls Yba.prog 46 #[.float .f64 b] w fun e w' => ∃ r k n, e = .returned (.tuple #[.float .f64 r, .int .i64 k]) ∧ w' = w.drewN n := by
  have h1 := f64bits; have h2 := f64from
  go_enter Yba.func46, Yba.ntmps46
  go_wp2_with (first
    | (go_at_call 11; refine (isInf_any _ _).mono ?_; rintro e w' ⟨t, rfl, rfl⟩)
    | (go_at_call 10; refine (isNaN_any _ _).mono ?_; rintro e w' ⟨rfl, rfl⟩)
    | (go_at_call 50; refine (normalize_any _ _).mono ?_; rintro e w' ⟨r, k, n, rfl, rfl⟩))
  all_goals (go_ret2; first | exact ⟨_, _, _, rfl, rfl⟩ | exact ⟨_, _, 0, rfl, rfl⟩)

set_option maxHeartbeats 400000 in
theorem Frexp_any (b : Nat) (w : World) : Calls Yba.prog 33 #[.float .f64 b] w fun e w' => ∃ r k n, e = .returned (.tuple #[.float .f64 r, .int .i64 k]) ∧ w' = w.drewN n := by
  go_enter Yba.func33, Yba.ntmps33
  go_wp2_with (go_at_call 46; refine (frexp_any _ _).mono ?_; rintro e w' ⟨r, k, n, rfl, rfl⟩)
  go_ret2
  exact ⟨_, _, _, rfl, rfl⟩


end Go.Proofs.Ybulkcos
