import Derived.Test.YbulkcosMath
namespace Go.Proofs.Ybulkcos
open Go.RowKit
set_option linter.unusedVariables false

set_option maxRecDepth 100000 in
set_option maxHeartbeats 1000000 in
theorem ldexp_any (b : Nat) (x : Int) (w : World) : Calls Yba.prog 44 #[.float .f64 b, .int .i64 x] w fun e w' => ∃ r n, e = .returned (.float .f64 r) ∧ w' = w.drewN n := by
  have h1 := f64bits; have h2 := f64from
  obtain ⟨fm, dm, hm⟩ := float_op Yba.prog .mul (by simp)
  go_enter Yba.func44, Yba.ntmps44
  go_wp2_with (first
    | (go_at_call 11; refine (isInf_any _ _).mono ?_; rintro e w' ⟨t, rfl, rfl⟩)
    | (go_at_call 10; refine (isNaN_any _ _).mono ?_; rintro e w' ⟨rfl, rfl⟩)
    | (go_at_call 51; refine (copysign_any _ _ _).mono ?_; rintro e w' ⟨r, rfl, rfl⟩)
    | (go_at_call_of 7 (Value.int .i64 1); refine (inf_pos _).mono ?_; rintro e w' ⟨rfl, rfl⟩)
    | (go_at_call 7; refine (inf_neg _).mono ?_; rintro e w' ⟨rfl, rfl⟩)
    | (go_at_call 50; refine (normalize_any _ _).mono ?_; rintro e w' ⟨r, k, n, rfl, rfl⟩))
  all_goals (go_ret; first | exact ⟨_, _, rfl, rfl⟩ | exact ⟨_, 0, rfl, rfl⟩)

set_option maxHeartbeats 400000 in
theorem Ldexp_any (b : Nat) (x : Int) (w : World) : Calls Yba.prog 31 #[.float .f64 b, .int .i64 x] w fun e w' => ∃ r n, e = .returned (.float .f64 r) ∧ w' = w.drewN n := by
  go_enter Yba.func31, Yba.ntmps31
  go_wp2_with (go_at_call 44; refine (ldexp_any _ _ _).mono ?_; rintro e w' ⟨r, n, rfl, rfl⟩)
  go_ret
  exact ⟨_, _, rfl, rfl⟩

end Go.Proofs.Ybulkcos
