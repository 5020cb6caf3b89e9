import Derived.Test.YbulkcosRows
import Derived.WalkKit
import Derived.WalkSpells
import Derived.WalkLawsBesides
import Derived.Defers
import Derived.Laws.LoneSync
namespace Go.Proofs.Ybulkcos
open Go.RowKit
set_option linter.unusedVariables false
set_option linter.unusedSimpArgs false

namespace Mu
theorem disable (w : World) : (callFunc 36 #[]).run Yba.prog w = .ok (.value (.tuple #[])) w := run_call_mark0 Yba.func36 (by kernel_rfl) (by kernel_rfl) (by kernel_rfl) .disable (by kernel_rfl) w
theorem enable (w : World) : (callFunc 37 #[]).run Yba.prog w = .ok (.value (.tuple #[])) w := run_call_mark0 Yba.func37 (by kernel_rfl) (by kernel_rfl) (by kernel_rfl) .enable (by kernel_rfl) w
theorem acquire (a : Addr) (w : World) : (callFunc 39 #[.pointer (some a)]).run Yba.prog w = .ok (.value (.tuple #[])) w := run_call_marked Yba.func39 (by kernel_rfl) (by kernel_rfl) (by kernel_rfl) .acquire (by kernel_rfl) a w
theorem releaseMerge (a : Addr) (w : World) : (callFunc 40 #[.pointer (some a)]).run Yba.prog w = .ok (.value (.tuple #[])) w := run_call_marked Yba.func40 (by kernel_rfl) (by kernel_rfl) (by kernel_rfl) .releaseMerge (by kernel_rfl) a w

set_option maxRecDepth 100000 in
set_option maxHeartbeats 800000 in
theorem ilock_free (b off : Nat) (w : World) (h0 : w.cell? ⟨b, off, none⟩ = some (.int .i32 0)) (f0 : w.frozen? ⟨b, off, none⟩ = false) :
    Calls Yba.prog 34 #[.pointer (some ⟨b, off, none⟩)] w fun e w' => e = .returned (.tuple #[]) ∧ w' = w.setCell ⟨b, off, none⟩ (.int .i32 1) := by
  have hd := disable
  have he := enable
  have ha := acquire
  have hcas := run_call_cas_hit (P := Yba.prog) Yba.func38 (by kernel_rfl) (by kernel_rfl) (by kernel_rfl) .i32 (by kernel_rfl) (y := 1) h0 f0
  have h0' : (w.setCell ⟨b, off, none⟩ (.int .i32 1)).cell? ⟨b, off, none⟩ = some (.int .i32 1) := by simp [go_sem, h0]
  have hcv := run_convert_to_unsafe (P := Yba.prog) (src := 91) (dst := 95) Yba.underlying91 Yba.underlying95 (by kernel_rfl) h0'
  go_enter Yba.func34, Yba.ntmps34
  go_wp2
  first | go_end0 | (refine bodyPost_ret (results_none rfl _ _ _) rfl ?_)
  exact ⟨rfl, rfl⟩

set_option maxRecDepth 100000 in
set_option maxHeartbeats 800000 in
theorem lock_free (b off : Nat) (w : World) (h0 : w.cell? ⟨b, off, none⟩ = some (.int .i32 0)) (f0 : w.frozen? ⟨b, off, none⟩ = false) :
    Calls Yba.prog 25 #[.pointer (some ⟨b, off, none⟩)] w fun e w' => e = .returned (.tuple #[]) ∧ w' = w.setCell ⟨b, off, none⟩ (.int .i32 1) := by
  go_enter Yba.func25, Yba.ntmps25
  go_wp2_with (go_at_call 34; refine (ilock_free b off _ h0 f0).mono ?_; rintro e w' ⟨rfl, rfl⟩)
  go_end0
  exact ⟨rfl, rfl⟩

set_option maxRecDepth 100000 in
set_option maxHeartbeats 800000 in
theorem iunlock_held (b off : Nat) (w : World) (h0 : w.cell? ⟨b, off, none⟩ = some (.int .i32 1)) (f0 : w.frozen? ⟨b, off, none⟩ = false) :
    Calls Yba.prog 28 #[.pointer (some ⟨b, off, none⟩)] w fun e w' => e = .returned (.tuple #[]) ∧ w' = w.setCell ⟨b, off, none⟩ (.int .i32 0) := by
  have hd := disable
  have he := enable
  have hr := releaseMerge
  have hcv := run_convert_to_unsafe (P := Yba.prog) (src := 91) (dst := 95) Yba.underlying91 Yba.underlying95 (by kernel_rfl) h0
  have hadd := run_call_add (P := Yba.prog) Yba.func41 (by kernel_rfl) (by kernel_rfl) (by kernel_rfl) .i32 (by kernel_rfl) (y := -1) (s := 0) h0 f0 (by rfl)
  go_enter Yba.func28, Yba.ntmps28
  go_wp2
  first | go_end0 | (refine bodyPost_ret (results_none rfl _ _ _) rfl ?_)
  exact ⟨rfl, rfl⟩

set_option maxRecDepth 100000 in
set_option maxHeartbeats 800000 in
theorem unlock_held (b off : Nat) (w : World) (h0 : w.cell? ⟨b, off, none⟩ = some (.int .i32 1)) (f0 : w.frozen? ⟨b, off, none⟩ = false) :
    Calls Yba.prog 18 #[.pointer (some ⟨b, off, none⟩)] w fun e w' => e = .returned (.tuple #[]) ∧ w' = w.setCell ⟨b, off, none⟩ (.int .i32 0) := by
  go_enter Yba.func18, Yba.ntmps18
  go_wp2_with (go_at_call 28; refine (iunlock_held b off _ h0 f0).mono ?_; rintro e w' ⟨rfl, rfl⟩)
  go_end0
  exact ⟨rfl, rfl⟩

set_option maxRecDepth 100000 in
set_option maxHeartbeats 800000 in
theorem itry_free (b off : Nat) (w : World) (h0 : w.cell? ⟨b, off, none⟩ = some (.int .i32 0)) (f0 : w.frozen? ⟨b, off, none⟩ = false) :
    Calls Yba.prog 27 #[.pointer (some ⟨b, off, none⟩)] w fun e w' => e = .returned (.bool true) ∧ w' = w.setCell ⟨b, off, none⟩ (.int .i32 1) := by
  have hd := disable
  have he := enable
  have ha := acquire
  have hcas := run_call_cas_hit (P := Yba.prog) Yba.func38 (by kernel_rfl) (by kernel_rfl) (by kernel_rfl) .i32 (by kernel_rfl) (y := 1) h0 f0
  have h0' : (w.setCell ⟨b, off, none⟩ (.int .i32 1)).cell? ⟨b, off, none⟩ = some (.int .i32 1) := by simp [go_sem, h0]
  have hcv := run_convert_to_unsafe (P := Yba.prog) (src := 91) (dst := 95) Yba.underlying91 Yba.underlying95 (by kernel_rfl) h0'
  have e1 : bits .and .i32 0 5 = 0 := by decide
  have e2 : bits .or .i32 0 1 = 1 := by decide
  go_enter Yba.func27, Yba.ntmps27
  go_wp2
  go_ret
  exact ⟨rfl, rfl⟩

set_option maxRecDepth 100000 in
set_option maxHeartbeats 800000 in
theorem try_free (b off : Nat) (w : World) (h0 : w.cell? ⟨b, off, none⟩ = some (.int .i32 0)) (f0 : w.frozen? ⟨b, off, none⟩ = false) :
    Calls Yba.prog 17 #[.pointer (some ⟨b, off, none⟩)] w fun e w' => e = .returned (.bool true) ∧ w' = w.setCell ⟨b, off, none⟩ (.int .i32 1) := by
  go_enter Yba.func17, Yba.ntmps17
  go_wp2_with (go_at_call 27; refine (itry_free b off _ h0 f0).mono ?_; rintro e w' ⟨rfl, rfl⟩)
  go_ret
  exact ⟨rfl, rfl⟩

set_option maxRecDepth 100000 in
set_option maxHeartbeats 800000 in
theorem store64 (b off : Nat) (x y : Int) (w : World) (h0 : w.cell? ⟨b, off, none⟩ = some (.int .i64 x)) (f0 : w.frozen? ⟨b, off, none⟩ = false) :
    Calls Yba.prog 14 #[.pointer (some ⟨b, off, none⟩), .int .i64 y] w fun e w' => e = .returned (.tuple #[]) ∧ w' = w.setCell ⟨b, off, none⟩ (.int .i64 y) := by
  have hst := run_call_store (P := Yba.prog) Yba.func24 (by kernel_rfl) (by kernel_rfl) (by kernel_rfl) (by kernel_rfl) (k := .i64) (y := y) h0 f0
  go_enter Yba.func14, Yba.ntmps14
  go_wp2
  go_end0
  exact ⟨rfl, rfl⟩

set_option maxRecDepth 100000 in
set_option maxHeartbeats 800000 in
theorem load64 (b off : Nat) (x : Int) (w : World) (h0 : w.cell? ⟨b, off, none⟩ = some (.int .i64 x)) :
    Calls Yba.prog 19 #[.pointer (some ⟨b, off, none⟩)] w fun e w' => e = .returned (.int .i64 x) ∧ w = w' := by
  have hld := run_call_load (P := Yba.prog) Yba.func29 (by kernel_rfl) (by kernel_rfl) (by kernel_rfl) .i64 (by kernel_rfl) h0
  go_enter Yba.func19, Yba.ntmps19
  go_wp2
  go_ret
  exact ⟨rfl, rfl⟩
end Mu
end Go.Proofs.Ybulkcos
