import Derived.Test.YbulkcosMath3
import Derived.Test.YbulkcosEdge
namespace Go.Proofs.Ybulkcos
open Go.RowKit
set_option linter.unusedVariables false
set_option linter.unusedSimpArgs false

set_option maxHeartbeats 400000 in
theorem pow_one (x y : Nat) (w : World) (h : (feq x 4607182418800017408 || feq y 0) = true) :
    Calls Yba.prog 9 #[.float .f64 x, .float .f64 y] w fun e w' => e = .returned (.float .f64 4607182418800017408) ∧ w = w' := by
  have hx : ((FloatKind.format .f64).order x 4607182418800017408 == some .eq) = feq x 4607182418800017408 := rfl
  have hy : ((FloatKind.format .f64).order y 0 == some .eq) = feq y 0 := rfl
  cases h1 : feq x 4607182418800017408
  · rw [h1] at hx h
    have h2 : feq y 0 = true := by simpa using h
    rw [h2] at hy
    clear h1 h2 h
    go_enter Yba.func9, Yba.ntmps9
    go_wp2_with fail
    go_ret; exact ⟨rfl, rfl⟩
  · rw [h1] at hx
    clear h hy h1
    go_enter Yba.func9, Yba.ntmps9
    go_wp2_with fail
    go_ret; exact ⟨rfl, rfl⟩

/-- The road through Log, the product and Exp, each met by what it does here. -/
theorem pow_road (x y : Nat) (w : World) (hx : feq x 4607182418800017408 = false) (hy : feq y 0 = false) (L : Nat → World → Prop) (R : Nat → World → Prop)
    (hl : Calls Yba.prog 23 #[.float .f64 x] w fun e w' => ∃ l, e = .returned (.float .f64 l) ∧ L l w')
    (hr : ∀ l w1, L l w1 → ∃ p w2, (binOp .mul 22 (.float .f64 y) (.float .f64 l)).run Yba.prog w1 = .ok (.float .f64 p) w2 ∧ Calls Yba.prog 22 #[.float .f64 p] w2 fun e w' => ∃ r, e = .returned (.float .f64 r) ∧ R r w') :
    Calls Yba.prog 9 #[.float .f64 x, .float .f64 y] w fun e w' => ∃ r, e = .returned (.float .f64 r) ∧ R r w' := by
  have hx' : ((FloatKind.format .f64).order x 4607182418800017408 == some .eq) = false := hx
  have hy' : ((FloatKind.format .f64).order y 0 == some .eq) = false := hy
  have HL : Hid _ := hl
  have HR : Hid _ := hr
  clear hl hr hx hy
  go_enter Yba.func9, Yba.ntmps9
  go_wp2_with fail
  refine Calls.mono HL.out ?_
  rintro e w1 ⟨l, rfl, hL⟩
  obtain ⟨p, w2, hm, he⟩ := HR.out l w1 hL
  have HE : Hid _ := he
  clear he
  go_wp2_with fail
  refine Calls.mono HE.out ?_
  rintro e w3 ⟨r, rfl, hR⟩
  go_wp2_with fail
  go_ret
  exact ⟨_, rfl, hR⟩

theorem pow_spec (x y : Nat) (w : World) :
    Calls Yba.prog 9 #[.float .f64 x, .float .f64 y] w fun e w' => ∃ r, e = .returned (.float .f64 r) ∧ (lawTail x y r = true ∧ ∃ n, w' = w.drewN n) := by
  cases h1 : (feq x 4607182418800017408 || feq y 0) with
  | true =>
    refine (pow_one x y w h1).mono ?_
    rintro e w' ⟨rfl, rfl⟩
    exact ⟨_, rfl, by unfold lawTail; simp only [h1, Bool.false_eq_true, if_false, if_true]; decide, 0, rfl⟩
  | false =>
    obtain ⟨hx1, hy0⟩ := Bool.or_eq_false_iff.1 h1
    cases h2 : (nanB x || nanB y || flt x 0) with
    | true =>
      by_cases hny : nanB y = true
      · refine pow_road x y w hx1 hy0 (fun l w' => ∃ n, w' = w.drewN n) _ ?_ ?_
        · refine (log_any x w).mono ?_
          rintro e w' ⟨r, n, rfl, rfl⟩
          exact ⟨_, rfl, _, rfl⟩
        · rintro l w1 ⟨n, rfl⟩
          refine ⟨_, _, run_float_none _ .mul 22 y l (by simp) (floatBits_nan_left _ _ _ hny), ?_⟩
          refine (exp_nan _ _ (drawnNan_nan _ _ _)).mono ?_
          rintro e w' ⟨rfl, rfl⟩
          exact ⟨_, rfl, by unfold lawTail; rw [h1, h2]; simp [drawnNan_nan], n + 1, rfl⟩
      · have hx : feq x 0 = false ∧ fgt x 0 = false := by
          have h3 : nanB x = true ∨ flt x 0 = true := by
            simp only [Bool.or_eq_true] at h2
            rcases h2 with (h | h) | h
            · exact .inl h
            · exact absurd h hny
            · exact .inr h
          rcases h3 with h | h
          · exact ⟨feq_nan _ _ h, fgt_nan _ _ h⟩
          · exact ⟨feq_of_flt _ _ h, fgt_of_flt _ _ h⟩
        refine pow_road x y w hx1 hy0 (fun l w' => l = 9221120237041090561 ∧ w' = w) _ ?_ ?_
        · refine (log_nan x w hx.1 hx.2).mono ?_
          rintro e w' ⟨rfl, rfl⟩
          exact ⟨_, rfl, rfl, rfl⟩
        · rintro l w1 ⟨rfl, rfl⟩
          refine ⟨_, _, run_float_none _ .mul 22 y _ (by simp) (floatBits_nan_right _ _ _ nan_log), ?_⟩
          refine (exp_nan _ _ (drawnNan_nan _ _ _)).mono ?_
          rintro e w' ⟨rfl, rfl⟩
          exact ⟨_, rfl, by unfold lawTail; rw [h1, h2]; simp [drawnNan_nan], 1, rfl⟩
    | false =>
      have hnx : nanB x = false := by cases h : nanB x <;> simp [h] at h2 ⊢
      have hny : nanB y = false := by cases h : nanB y <;> simp [h] at h2 ⊢
      cases h3 : feq x 0 with
      | true =>
        refine pow_road x y w hx1 hy0 (fun l w' => l = 18442240474082181120 ∧ w' = w) _ ?_ ?_
        · refine (log_zero x w h3).mono ?_
          rintro e w' ⟨rfl, rfl⟩
          exact ⟨_, rfl, rfl, rfl⟩
        · rintro l w1 ⟨rfl, rfl⟩
          cases h4 : fgt y 0 with
          | true =>
            have hm := mul_inf y 18442240474082181120 false true read_negInf (gt_zero y h4)
            refine ⟨_, _, run_float_arith _ .mul 22 .f64 y _ _ hm, ?_⟩
            refine (exp_zero _ _ (by decide) (by decide) (by decide)).mono ?_
            rintro e w' ⟨rfl, rfl⟩
            exact ⟨_, rfl, by unfold lawTail; simp only [h1, h2, h3, h4, Bool.false_eq_true, if_false, if_true]; decide, 0, rfl⟩
          | false =>
            have hm := mul_inf y 18442240474082181120 true true read_negInf (lt_zero y (lt_of_not y hny hy0 h4))
            refine ⟨_, _, run_float_arith _ .mul 22 .f64 y _ _ hm, ?_⟩
            refine (exp_inf _ _ (by decide) (by decide)).mono ?_
            rintro e w' ⟨rfl, rfl⟩
            exact ⟨_, rfl, by unfold lawTail; simp only [h1, h2, h3, h4, Bool.false_eq_true, if_false, if_true]; decide, 0, rfl⟩
      | false =>
        cases h5 : fgt x 9218868437227405311 with
        | true =>
          have hinf := gt_max x h5
          refine pow_road x y w hx1 hy0 (fun l w' => l = x ∧ w' = w) _ ?_ ?_
          · refine (log_inf x w h3 (inf_facts x hinf).2 h5).mono ?_
            rintro e w' ⟨rfl, rfl⟩
            exact ⟨_, rfl, rfl, rfl⟩
          · rintro l w1 ⟨rfl, rfl⟩
            cases h4 : fgt y 0 with
            | true =>
              have hm := mul_inf y _ false false hinf (gt_zero y h4)
              refine ⟨_, _, run_float_arith _ .mul 22 .f64 y _ _ hm, ?_⟩
              refine (exp_inf _ _ (by decide) (by decide)).mono ?_
              rintro e w' ⟨rfl, rfl⟩
              exact ⟨_, rfl, by unfold lawTail; simp only [h1, h2, h3, h5, h4, Bool.false_eq_true, if_false, if_true]; decide, 0, rfl⟩
            | false =>
              have hm := mul_inf y _ true false hinf (lt_zero y (lt_of_not y hny hy0 h4))
              refine ⟨_, _, run_float_arith _ .mul 22 .f64 y _ _ hm, ?_⟩
              refine (exp_zero _ _ (by decide) (by decide) (by decide)).mono ?_
              rintro e w' ⟨rfl, rfl⟩
              exact ⟨_, rfl, by unfold lawTail; simp only [h1, h2, h3, h5, h4, Bool.false_eq_true, if_false, if_true]; decide, 0, rfl⟩
        | false =>
          refine pow_road x y w hx1 hy0 (fun l w' => ∃ n, w' = w.drewN n) _ ?_ ?_
          · refine (log_any x w).mono ?_
            rintro e w' ⟨r, n, rfl, rfl⟩
            exact ⟨_, rfl, _, rfl⟩
          · rintro l w1 ⟨n, rfl⟩
            obtain ⟨fm, dm, hm⟩ := float_op Yba.prog .mul (by simp)
            refine ⟨_, _, hm (w.drewN n) 22 y l, ?_⟩
            refine (exp_any _ _).mono ?_
            rintro e w' ⟨r, m, rfl, rfl⟩
            exact ⟨_, rfl, by unfold lawTail; simp only [h1, h2, h3, h5, Bool.false_eq_true, if_false], _, by rw [World.drewN_drewN, World.drewN_drewN]⟩

end Go.Proofs.Ybulkcos
