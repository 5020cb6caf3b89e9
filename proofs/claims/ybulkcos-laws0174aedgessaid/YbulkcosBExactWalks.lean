import Derived.Test.YbulkcosFloat
import Derived.Deep.QuietTactic
import Derived.BigQuiet
namespace Go.Proofs.Ybulkcos
open Go.RowKit
set_option linter.unusedVariables false

theorem isNaN_any (b : Nat) (w : World) :
    Calls Yba.prog 10 #[.float .f64 b] w fun e w' => e = .returned (.bool (nanB b)) ∧ w = w' := by
  have h := order_self_nan b
  have h' : ((FloatKind.format .f64).order b b != some .eq) = nanB b := by unfold bne; rw [h]; simp
  go_enter Yba.func10, Yba.ntmps10
  go_wp2
  go_ret
  exact ⟨by simp, rfl⟩

theorem f64bits (b : Nat) (w : World) : (callFunc 21 #[.float .f64 b]).run Yba.prog w = .ok (.value (.int .u64 b)) w := by
  rw [run_callFunc_extern (e := Extern.MathFloatBits.float64bits) Yba.func21 (by kernel_rfl) (by kernel_rfl) (by kernel_rfl) (by kernel_rfl)]
  rfl

set_option maxHeartbeats 400000 in
theorem same_nan (a b : Nat) (w : World) (ha : nanB a = true) (hb : nanB b = true) :
    Calls Yba.prog 13 #[.float .f64 a, .float .f64 b] w fun e w' => e = .returned (.bool true) ∧ w = w' := by
  go_enter Yba.func13, Yba.ntmps13
  go_wp2_with (go_at_call 10; refine (isNaN_any _ _).mono ?_; rintro e w' ⟨rfl, rfl⟩)
  go_ret
  exact ⟨rfl, rfl⟩

set_option maxHeartbeats 400000 in
theorem same_refl (a : Nat) (w : World) :
    Calls Yba.prog 13 #[.float .f64 a, .float .f64 a] w fun e w' => e = .returned (.bool true) ∧ w = w' := by
  cases ha : nanB a
  · have hf := f64bits a
    go_enter Yba.func13, Yba.ntmps13
    go_wp2_with (go_at_call 10; refine (isNaN_any _ _).mono ?_; rintro e w' ⟨rfl, rfl⟩)
    go_ret
    exact ⟨by simp, rfl⟩
  · exact same_nan a a w ha ha


set_option maxHeartbeats 400000 in
theorem dev_zero (b off e o : Nat) (w : World) (he : w.cell? ⟨b, off + 13, none⟩ = some (.float .f64 e)) (ho : w.cell? ⟨b, off + 14, none⟩ = some (.float .f64 o))
    (hz : ((FloatKind.format .f64).order o 0 == some .eq) = true) :
    Calls Yba.prog 12 #[.pointer (some ⟨b, off, none⟩)] w fun e w' => e = .returned (.tuple #[.float .f64 0, .bool false]) ∧ w = w' := by
  go_enter Yba.func12, Yba.ntmps12
  go_wp2
  go_ret2
  exact ⟨rfl, rfl⟩

set_option maxHeartbeats 400000 in
theorem dev_some (b off e o m r : Nat) (w : World) (he : w.cell? ⟨b, off + 13, none⟩ = some (.float .f64 e)) (ho : w.cell? ⟨b, off + 14, none⟩ = some (.float .f64 o))
    (hz : ((FloatKind.format .f64).order o 0 == some .eq) = false) (hm : floatBits .mul .f64 4636737291354636288 e = some m) (hr : floatBits .quo .f64 m o = some r) :
    Calls Yba.prog 12 #[.pointer (some ⟨b, off, none⟩)] w fun e w' => e = .returned (.tuple #[.float .f64 r, .bool true]) ∧ ∃ n, w' = w.drewN n := by
  have h1 : ∀ t w, (binOp .mul t (.float .f64 4636737291354636288) (.float .f64 e)).run Yba.prog w = .ok (.float .f64 m) w := fun t w => run_float_arith w .mul t .f64 _ e m hm
  have h2 : ∀ t w, (binOp .quo t (.float .f64 m) (.float .f64 o)).run Yba.prog w = .ok (.float .f64 r) w := fun t w => run_float_arith w .quo t .f64 m o r hr
  go_enter Yba.func12, Yba.ntmps12
  go_wp2
  go_quiet (fail)
  go_wp2
  go_ret2
  exact ⟨rfl, _, rfl⟩

set_option maxHeartbeats 400000 in
theorem dev_nan1 (b off e o : Nat) (w : World) (he : w.cell? ⟨b, off + 13, none⟩ = some (.float .f64 e)) (ho : w.cell? ⟨b, off + 14, none⟩ = some (.float .f64 o))
    (hz : ((FloatKind.format .f64).order o 0 == some .eq) = false) (hm : floatBits .mul .f64 4636737291354636288 e = none) :
    Calls Yba.prog 12 #[.pointer (some ⟨b, off, none⟩)] w fun e w' => ∃ r, e = .returned (.tuple #[.float .f64 r, .bool true]) ∧ nanB r = true ∧ ∃ n, w' = w.drewN n := by
  have h1 : ∀ t w, (binOp .mul t (.float .f64 4636737291354636288) (.float .f64 e)).run Yba.prog w = .ok (.float .f64 (drawnNan w 4636737291354636288 e)) w.drew := fun t w => run_float_none w .mul t _ e (by simp) hm
  have h2 : ∀ x y t w w', (binOp .quo t (.float .f64 (drawnNan w' x y)) (.float .f64 o)).run Yba.prog w = .ok (.float .f64 (drawnNan w (drawnNan w' x y) o)) w.drew := fun x y t w w' => run_float_none w .quo t _ o (by simp) (floatBits_nan_left _ _ _ (drawnNan_nan _ _ _))
  go_enter Yba.func12, Yba.ntmps12
  go_wp2
  go_region
  all_goals (go_wp2; go_ret2; exact ⟨_, rfl, drawnNan_nan _ _ _, 3, rfl⟩)

set_option maxHeartbeats 400000 in
theorem dev_nan2 (b off e o m : Nat) (w : World) (he : w.cell? ⟨b, off + 13, none⟩ = some (.float .f64 e)) (ho : w.cell? ⟨b, off + 14, none⟩ = some (.float .f64 o))
    (hz : ((FloatKind.format .f64).order o 0 == some .eq) = false) (hm : floatBits .mul .f64 4636737291354636288 e = some m) (hr : floatBits .quo .f64 m o = none) :
    Calls Yba.prog 12 #[.pointer (some ⟨b, off, none⟩)] w fun e w' => ∃ r, e = .returned (.tuple #[.float .f64 r, .bool true]) ∧ nanB r = true ∧ ∃ n, w' = w.drewN n := by
  have h1 : ∀ t w, (binOp .mul t (.float .f64 4636737291354636288) (.float .f64 e)).run Yba.prog w = .ok (.float .f64 m) w := fun t w => run_float_arith w .mul t .f64 _ e m hm
  have h2 : ∀ t w, (binOp .quo t (.float .f64 m) (.float .f64 o)).run Yba.prog w = .ok (.float .f64 (drawnNan w m o)) w.drew := fun t w => run_float_none w .quo t _ o (by simp) hr
  go_enter Yba.func12, Yba.ntmps12
  go_wp2
  go_region
  all_goals (go_wp2; go_ret2; exact ⟨_, rfl, drawnNan_nan _ _ _, 2, rfl⟩)

set_option maxHeartbeats 400000 in
theorem law_zero (e o : Nat) (w : World) (hz : ((FloatKind.format .f64).order o 0 == some .eq) = true) :
    Calls Yba.prog 5 #[.float .f64 e, .float .f64 o] w fun e w' => e = .returned (.bool true) ∧ Below w.heap.size w w' := by
  go_enter Yba.func5, Yba.ntmps5
  go_wp2_with (go_at_call 12; refine (dev_zero w.heap.size 0 e o _ ?_ ?_ hz).mono ?_; rotate_left 2; rintro e w' ⟨rfl, rfl⟩)
  case refine_1 => go_simp
  case refine_2 => go_simp
  go_wp2_with (go_at_call 13; refine (same_refl _ _).mono ?_; rintro e w' ⟨rfl, rfl⟩)
  go_ret
  exact ⟨rfl, (Below.refl _ _).alloc (Nat.le_refl _) _⟩

set_option maxHeartbeats 400000 in
theorem law_some (e o m r : Nat) (w : World) (hz : ((FloatKind.format .f64).order o 0 == some .eq) = false) (hm : floatBits .mul .f64 4636737291354636288 e = some m) (hr : floatBits .quo .f64 m o = some r) :
    Calls Yba.prog 5 #[.float .f64 e, .float .f64 o] w fun e w' => e = .returned (.bool true) ∧ Below w.heap.size w w' := by
  have h1 : ∀ t w, (binOp .mul t (.float .f64 4636737291354636288) (.float .f64 e)).run Yba.prog w = .ok (.float .f64 m) w := fun t w => run_float_arith w .mul t .f64 _ e m hm
  have h2 : ∀ t w, (binOp .quo t (.float .f64 m) (.float .f64 o)).run Yba.prog w = .ok (.float .f64 r) w := fun t w => run_float_arith w .quo t .f64 m o r hr
  go_enter Yba.func5, Yba.ntmps5
  go_wp2_with (go_at_call 12; refine (dev_some w.heap.size 0 e o m r _ ?_ ?_ hz hm hr).mono ?_; rotate_left 2; rintro e w' ⟨rfl, n, rfl⟩)
  case refine_1 => go_simp
  case refine_2 => go_simp
  go_wp2_with (go_at_call 13; refine (same_refl _ _).mono ?_; rintro e w' ⟨rfl, rfl⟩)
  go_ret
  exact ⟨rfl, below_drewN ((Below.refl _ _).alloc (Nat.le_refl _) _) _⟩

set_option maxHeartbeats 400000 in
theorem law_nan2 (e o m : Nat) (w : World) (hz : ((FloatKind.format .f64).order o 0 == some .eq) = false) (hm : floatBits .mul .f64 4636737291354636288 e = some m) (hr : floatBits .quo .f64 m o = none) :
    Calls Yba.prog 5 #[.float .f64 e, .float .f64 o] w fun e w' => e = .returned (.bool true) ∧ Below w.heap.size w w' := by
  have h1 : ∀ t w, (binOp .mul t (.float .f64 4636737291354636288) (.float .f64 e)).run Yba.prog w = .ok (.float .f64 m) w := fun t w => run_float_arith w .mul t .f64 _ e m hm
  have h2 : ∀ t w, (binOp .quo t (.float .f64 m) (.float .f64 o)).run Yba.prog w = .ok (.float .f64 (drawnNan w m o)) w.drew := fun t w => run_float_none w .quo t _ o (by simp) hr
  go_enter Yba.func5, Yba.ntmps5
  go_wp2_with (go_at_call 12; refine (dev_nan2 w.heap.size 0 e o m _ ?_ ?_ hz hm hr).mono ?_; rotate_left 2; rintro e w' ⟨r, rfl, hn, n, rfl⟩)
  case refine_1 => go_simp
  case refine_2 => go_simp
  go_wp2_with (go_at_call 13; refine (same_nan _ _ _ hn (drawnNan_nan _ _ _)).mono ?_; rintro e w' ⟨rfl, rfl⟩)
  go_ret
  exact ⟨rfl, (below_drewN ((Below.refl _ _).alloc (Nat.le_refl _) _) _).drew⟩

set_option maxHeartbeats 400000 in
theorem law_nan1 (e o : Nat) (w : World) (hz : ((FloatKind.format .f64).order o 0 == some .eq) = false) (hm : floatBits .mul .f64 4636737291354636288 e = none) :
    Calls Yba.prog 5 #[.float .f64 e, .float .f64 o] w fun e w' => e = .returned (.bool true) ∧ Below w.heap.size w w' := by
  have h1 : ∀ t w, (binOp .mul t (.float .f64 4636737291354636288) (.float .f64 e)).run Yba.prog w = .ok (.float .f64 (drawnNan w 4636737291354636288 e)) w.drew := fun t w => run_float_none w .mul t _ e (by simp) hm
  have h2 : ∀ x y t w w', (binOp .quo t (.float .f64 (drawnNan w' x y)) (.float .f64 o)).run Yba.prog w = .ok (.float .f64 (drawnNan w (drawnNan w' x y) o)) w.drew := fun x y t w w' => run_float_none w .quo t _ o (by simp) (floatBits_nan_left _ _ _ (drawnNan_nan _ _ _))
  go_enter Yba.func5, Yba.ntmps5
  go_wp2_with (go_at_call 12; refine (dev_nan1 w.heap.size 0 e o _ ?_ ?_ hz hm).mono ?_; rotate_left 2; rintro e w' ⟨r, rfl, hn, n, rfl⟩)
  case refine_1 => go_simp
  case refine_2 => go_simp
  go_wp2_with (go_at_call 13; refine (same_nan _ _ _ hn (drawnNan_nan _ _ _)).mono ?_; rintro e w' ⟨rfl, rfl⟩)
  go_ret
  exact ⟨rfl, (below_drewN ((Below.refl _ _).alloc (Nat.le_refl _) _) _).drew.drew⟩

theorem law_any (e o : Nat) (w : World) :
    Calls Yba.prog 5 #[.float .f64 e, .float .f64 o] w fun e w' => e = .returned (.bool true) ∧ Below w.heap.size w w' := by
  cases hz : ((FloatKind.format .f64).order o 0 == some .eq)
  · cases hm : floatBits .mul .f64 4636737291354636288 e with
    | none => exact law_nan1 e o w hz hm
    | some m =>
      cases hr : floatBits .quo .f64 m o with
      | none => exact law_nan2 e o m w hz hm hr
      | some r => exact law_some e o m r w hz hm hr
  · exact law_zero e o w hz

end Go.Proofs.Ybulkcos
