import Derived.Test.YbulkcosPow
namespace Go.Proofs.Ybulkcos
open Go.RowKit
set_option linter.unusedVariables false

set_option maxRecDepth 100000 in
set_option maxHeartbeats 2000000 in
theorem edges_any (a : Int) (x y : Nat) (w : World) (h0 : 0 ≤ a) (h1 : a ≤ 255) :
    Calls Yba.prog 3 #[.int .u8 a, .float .f64 x, .float .f64 y] w fun e w' => e = .returned (.bool true) ∧ Below w.heap.size w w' := by
  obtain ⟨fs, ds, hs⟩ := float_op Yba.prog .sub (by simp)
  have hneg := neg_float
  go_enter Yba.func3, Yba.ntmps3
  go_wp2_with (first
    | (go_at_call 7; refine (inf_pos _).mono ?_; rintro e w' ⟨rfl, rfl⟩)
    | (go_at_call 8; refine (abs_any _ _).mono ?_; rintro e w' ⟨r, rfl, rfl⟩))
  all_goals
    refine (pow_spec _ _ _).mono ?_
    rintro e w' ⟨r, rfl, ht, n, rfl⟩
    have HT : Hid _ := ht
    clear ht
    go_wp2_with (first
      | (go_at_call 10; refine (isNaN_any _ _).mono ?_; rintro e w' ⟨rfl, rfl⟩)
      | (go_at_call 11; refine (isInf_pos _ _).mono ?_; rintro e w' ⟨rfl, rfl⟩))
  all_goals
    have ht := HT.out
    simp only [lawTail, feq, flt, fgt] at ht
    clear HT hs hneg
    go_ret
    exact ⟨by simp_all, below_drewN (Below.refl _ _) _⟩

end Go.Proofs.Ybulkcos
