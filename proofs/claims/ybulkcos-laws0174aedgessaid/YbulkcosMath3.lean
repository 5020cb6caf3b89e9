import Derived.Test.YbulkcosMath2
namespace Go.Proofs.Ybulkcos
open Go.RowKit
set_option linter.unusedVariables false

set_option maxRecDepth 100000 in
set_option maxHeartbeats 1000000 in
theorem log_any (b : Nat) (w : World) : Calls Yba.prog 23 #[.float .f64 b] w fun e w' => ∃ r n, e = .returned (.float .f64 r) ∧ w' = w.drewN n := by
  obtain ⟨fm, dm, hm⟩ := float_op Yba.prog .mul (by simp)
  obtain ⟨fa, da, ha⟩ := float_op Yba.prog .add (by simp)
  obtain ⟨fs, ds, hs⟩ := float_op Yba.prog .sub (by simp)
  obtain ⟨fq, dq, hq⟩ := float_op Yba.prog .quo (by simp)
  go_enter Yba.func23, Yba.ntmps23
  go_wp2_with (first
    | (go_at_call 7; refine (inf_neg _).mono ?_; rintro e w' ⟨rfl, rfl⟩)
    | (go_at_call 32; refine (nan_any _).mono ?_; rintro e w' ⟨rfl, rfl⟩)
    | (go_at_call 11; refine (isInf_pos _ _).mono ?_; rintro e w' ⟨rfl, rfl⟩)
    | (go_at_call 33; refine (Frexp_any _ _).mono ?_; rintro e w' ⟨r, k, n, rfl, rfl⟩))
  · go_ret; exact ⟨_, 0, rfl, rfl⟩
  · go_ret; exact ⟨_, 0, rfl, rfl⟩
  · go_ret; exact ⟨_, 0, rfl, rfl⟩
  all_goals
    go_loopw [7, 8] (fun s j w' => ∃ (r : Nat) (k : Int) (n : Nat), s = .float .f64 r ∧ j = .int .i64 k ∧ -1 ≤ k ∧ k ≤ 9 ∧ w' = w.drewN n) (fun _ j _ => (intOf j + 1).toNat)
    case atStart => exact ⟨_, _, _, rfl, rfl, by omega, by omega, rfl⟩
    case round =>
      obtain ⟨r, k, n, rfl, rfl, hk1, hk2, rfl⟩ := hrel
      by_cases h0 : 0 ≤ k
      · go_wp2
        go_roundw
        case rel => exact ⟨_, _, _, rfl, rfl, by omega, by omega, rfl⟩
        case measure => simp [intOf]; omega
      · go_wp2
        go_ret; exact ⟨⟨_, rfl⟩, _, rfl⟩

set_option maxHeartbeats 400000 in
theorem log_zero (b : Nat) (w : World) (h : ((FloatKind.format .f64).order b 0 == some .eq) = true) :
    Calls Yba.prog 23 #[.float .f64 b] w fun e w' => e = .returned (.float .f64 18442240474082181120) ∧ w = w' := by
  go_enter Yba.func23, Yba.ntmps23
  go_wp2_with (go_at_call 7; refine (inf_neg _).mono ?_; rintro e w' ⟨rfl, rfl⟩)
  go_ret; exact ⟨rfl, rfl⟩

set_option maxHeartbeats 400000 in
theorem log_nan (b : Nat) (w : World) (h : ((FloatKind.format .f64).order b 0 == some .eq) = false) (h' : ((FloatKind.format .f64).order b 0 == some .gt) = false) :
    Calls Yba.prog 23 #[.float .f64 b] w fun e w' => e = .returned (.float .f64 9221120237041090561) ∧ w = w' := by
  go_enter Yba.func23, Yba.ntmps23
  go_wp2_with (go_at_call 32; refine (nan_any _).mono ?_; rintro e w' ⟨rfl, rfl⟩)
  go_ret; exact ⟨rfl, rfl⟩

set_option maxHeartbeats 400000 in
theorem log_inf (b : Nat) (w : World) (h : ((FloatKind.format .f64).order b 0 == some .eq) = false) (h' : ((FloatKind.format .f64).order b 0 == some .gt) = true) (hi : ((FloatKind.format .f64).order b 9218868437227405311 == some .gt) = true) :
    Calls Yba.prog 23 #[.float .f64 b] w fun e w' => e = .returned (.float .f64 b) ∧ w = w' := by
  go_enter Yba.func23, Yba.ntmps23
  go_wp2_with (go_at_call 11; refine (isInf_pos _ _).mono ?_; rintro e w' ⟨rfl, rfl⟩)
  go_ret; exact ⟨rfl, rfl⟩

set_option maxHeartbeats 400000 in
theorem exp_nan (b : Nat) (w : World) (h : nanB b = true) :
    Calls Yba.prog 22 #[.float .f64 b] w fun e w' => e = .returned (.float .f64 b) ∧ w = w' := by
  go_enter Yba.func22, Yba.ntmps22
  go_wp2_with (go_at_call 10; refine (isNaN_any _ _).mono ?_; rintro e w' ⟨rfl, rfl⟩)
  go_ret; exact ⟨rfl, rfl⟩

set_option maxHeartbeats 400000 in
theorem exp_inf (b : Nat) (w : World) (h : nanB b = false) (h' : ((FloatKind.format .f64).order b 4649456441864749056 == some .gt) = true) :
    Calls Yba.prog 22 #[.float .f64 b] w fun e w' => e = .returned (.float .f64 9218868437227405312) ∧ w = w' := by
  go_enter Yba.func22, Yba.ntmps22
  go_wp2_with (first | (go_at_call 10; refine (isNaN_any _ _).mono ?_; rintro e w' ⟨rfl, rfl⟩) | (go_at_call 7; refine (inf_pos _).mono ?_; rintro e w' ⟨rfl, rfl⟩))
  go_ret; exact ⟨rfl, rfl⟩

set_option maxHeartbeats 400000 in
theorem exp_zero (b : Nat) (w : World) (h : nanB b = false) (h' : ((FloatKind.format .f64).order b 4649456441864749056 == some .gt) = false) (hz : ((FloatKind.format .f64).order b 13873145138068324352 == some .lt) = true) :
    Calls Yba.prog 22 #[.float .f64 b] w fun e w' => e = .returned (.float .f64 0) ∧ w = w' := by
  go_enter Yba.func22, Yba.ntmps22
  go_wp2_with (go_at_call 10; refine (isNaN_any _ _).mono ?_; rintro e w' ⟨rfl, rfl⟩)
  go_ret; exact ⟨rfl, rfl⟩

set_option maxRecDepth 100000 in
set_option maxHeartbeats 1000000 in
theorem exp_any (b : Nat) (w : World) : Calls Yba.prog 22 #[.float .f64 b] w fun e w' => ∃ r n, e = .returned (.float .f64 r) ∧ w' = w.drewN n := by
  obtain ⟨fm, dm, hm⟩ := float_op Yba.prog .mul (by simp)
  obtain ⟨fa, da, ha⟩ := float_op Yba.prog .add (by simp)
  obtain ⟨fs, ds, hs⟩ := float_op Yba.prog .sub (by simp)
  obtain ⟨fq, dq, hq⟩ := float_op Yba.prog .quo (by simp)
  obtain ⟨fi, di, hi⟩ := float_int Yba.prog 22 3 (by rw [Yba.underlying22]; rfl) Yba.underlying3
  go_enter Yba.func22, Yba.ntmps22
  go_wp2_with (first
    | (go_at_call 7; refine (inf_pos _).mono ?_; rintro e w' ⟨rfl, rfl⟩)
    | (go_at_call 10; refine (isNaN_any _ _).mono ?_; rintro e w' ⟨rfl, rfl⟩)
    | (go_at_call 30; refine (round_any _ _).mono ?_; rintro e w' ⟨r, rfl, rfl⟩))
  · go_ret; exact ⟨_, 0, rfl, rfl⟩
  · go_ret; exact ⟨_, 0, rfl, rfl⟩
  · go_ret; exact ⟨_, 0, rfl, rfl⟩
  · go_loopw [5, 6] (fun s j w' => ∃ (r : Nat) (k : Int) (n : Nat), s = .float .f64 r ∧ j = .int .i64 k ∧ 0 ≤ k ∧ k ≤ 13 ∧ w' = w.drewN n) (fun _ j _ => (intOf j).toNat)
    case atStart => exact ⟨_, _, _, rfl, rfl, by omega, by omega, rfl⟩
    case round =>
      obtain ⟨r, k, n, rfl, rfl, hk1, hk2, rfl⟩ := hrel
      by_cases h0 : 1 ≤ k
      · go_wp2
        go_roundw
        case rel => exact ⟨_, _, _, rfl, rfl, by omega, by omega, rfl⟩
        case measure => simp [intOf]; omega
      · go_wp2_with (go_at_call 31; refine (Ldexp_any _ _ _).mono ?_; rintro e w' ⟨r, n, rfl, rfl⟩)
        go_ret; first | exact ⟨⟨_, rfl⟩, _, rfl⟩ | exact ⟨_, _, rfl, rfl⟩

end Go.Proofs.Ybulkcos
