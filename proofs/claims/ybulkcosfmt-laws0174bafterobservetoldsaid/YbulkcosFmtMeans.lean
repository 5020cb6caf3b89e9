import Derived.Test.YbulkcosFmtBase
namespace Go.Proofs.YbulkcosFmt
open Go.RowKit
set_option linter.unusedVariables false
set_option linter.unusedSimpArgs false

/-- The slice's first n cells hold floats. -/
def FRow (w : World) (b n : Nat) : Prop := ∀ i, i < n → ∃ x, w.cell? ⟨b, i, none⟩ = some (.float .f64 x)

theorem frow_fn {w : World} {b n : Nat} (h : FRow w b n) : ∃ f : Nat → Nat, ∀ i, i < n → w.cell? ⟨b, i, none⟩ = some (.float .f64 (f i)) := by
  have h' : ∀ i, ∃ x, i < n → w.cell? ⟨b, i, none⟩ = some (.float .f64 x) := by
    intro i
    by_cases hi : i < n
    · obtain ⟨x, hx⟩ := h i hi
      exact ⟨x, fun _ => hx⟩
    · exact ⟨0, fun hc => absurd hc hi⟩
  exact ⟨fun i => (h' i).choose, fun i hi => (h' i).choose_spec hi⟩

set_option maxRecDepth 100000 in
set_option maxHeartbeats 1000000 in
theorem mean_any (b n cap : Nat) (w : World) (hn : n ≤ 8) (hr : FRow w b n) :
    Calls Ybaf.prog 14 #[.slice (some ⟨b, 0, none⟩) n cap] w fun e w' => ∃ r m, e = .returned (.float .f64 r) ∧ w' = w.drewN m := by
  obtain ⟨f, hf⟩ := frow_fn hr
  clear hr
  obtain ⟨fa, da, ha, ra⟩ := float_op Ybaf.prog .add (by simp)
  obtain ⟨fq, dq, hq, rq⟩ := float_op Ybaf.prog .quo (by simp)
  go_enter Ybaf.func14, Ybaf.ntmps14
  go_wp2
  go_loopw [3, 8] (fun s i w' => ∃ (r k m : Nat), k ≤ n ∧ s = .float .f64 r ∧ i = .int .i64 k ∧ w' = w.drewN m) (fun _ i _ => n - (intOf i).toNat)
  case atStart => exact ⟨_, 0, 0, Nat.zero_le _, rfl, rfl, rfl⟩
  case round =>
    obtain ⟨r, k, m, hk, rfl, rfl, rfl⟩ := hrel
    by_cases hlt : k < n
    · have hc := hf k hlt
      go_wp2
      go_roundw
      case rel => exact ⟨_, k + 1, _, by omega, rfl, by go_num, rfl⟩
      case measure => simp [intOf]; omega
    · go_wp2
      go_ret
      first | exact ⟨⟨_, rfl⟩, _, rfl⟩ | exact ⟨_, _, rfl, rfl⟩

set_option maxRecDepth 100000 in
set_option maxHeartbeats 1000000 in
theorem weighted_any (b n cap d : Nat) (w : World) (hn : n ≤ 8) (hr : FRow w b n) :
    Calls Ybaf.prog 11 #[.slice (some ⟨b, 0, none⟩) n cap, .float .f64 d] w fun e w' => ∃ r m, e = .returned (.float .f64 r) ∧ w' = w.drewN m := by
  obtain ⟨f, hf⟩ := frow_fn hr
  clear hr
  obtain ⟨fa, da, ha, ra⟩ := float_op Ybaf.prog .add (by simp)
  obtain ⟨fm, dm, hm, rm⟩ := float_op Ybaf.prog .mul (by simp)
  obtain ⟨fq, dq, hq, rq⟩ := float_op Ybaf.prog .quo (by simp)
  go_enter Ybaf.func11, Ybaf.ntmps11
  go_wp2
  go_loopw [5, 6, 7, 8] (fun s t u i w' => ∃ (r r1 r2 k m : Nat), k ≤ n ∧ s = .float .f64 r ∧ t = .float .f64 r1 ∧ u = .float .f64 r2 ∧ i = .int .i64 ((k : Int) - 1) ∧ w' = w.drewN m) (fun _ _ _ i _ => (intOf i + 1).toNat)
  case atStart => exact ⟨_, _, _, n, 0, Nat.le_refl _, rfl, rfl, rfl, rfl, rfl⟩
  case round =>
    obtain ⟨r, r1, r2, k, m, hk, rfl, rfl, rfl, rfl, rfl⟩ := hrel
    by_cases hlt : 1 ≤ k
    · have hc := hf (k - 1) (by omega)
      have e1 : ((k : Int) - 1).toNat = k - 1 := by omega
      go_wp2
      go_roundw
      case rel => exact ⟨_, _, _, k - 1, _, by omega, rfl, rfl, rfl, by go_num, rfl⟩
      case measure => simp [intOf]; omega
    · go_wp2
      go_ret
      first | exact ⟨⟨_, rfl⟩, _, rfl⟩ | exact ⟨_, _, rfl, rfl⟩

set_option maxRecDepth 100000 in
set_option maxHeartbeats 1000000 in
theorem line_any (b n cap : Nat) (w : World) (hn : n ≤ 8) (hr : FRow w b n) :
    Calls Ybaf.prog 13 #[.slice (some ⟨b, 0, none⟩) n cap] w fun e w' => ∃ r m, e = .returned (.float .f64 r) ∧ w' = w.drewN m := by
  have hmean : ∀ m : Nat, _ := fun m => mean_any b n cap (w.drewN m) hn (by intro i hi; simpa using hr i hi)
  have HM : Hid _ := hmean
  clear hmean
  obtain ⟨f, hf⟩ := frow_fn hr
  clear hr
  obtain ⟨fa, da, ha, ra⟩ := float_op Ybaf.prog .add (by simp)
  obtain ⟨fs, ds, hs, rs⟩ := float_op Ybaf.prog .sub (by simp)
  obtain ⟨fm, dm, hm, rm⟩ := float_op Ybaf.prog .mul (by simp)
  obtain ⟨fq, dq, hq, rq⟩ := float_op Ybaf.prog .quo (by simp)
  by_cases h1 : n = 1
  · subst h1
    have hc := hf 0 (by omega)
    go_enter Ybaf.func13, Ybaf.ntmps13
    go_wp2
    go_ret
    exact ⟨_, 0, rfl, rfl⟩
  · have h1' : ((n : Int) == 1) = false := by simp; omega
    go_enter Ybaf.func13, Ybaf.ntmps13
    go_wp2
    go_loopw [5, 6, 7, 23] (fun s j y i w' => ∃ (r k m : Nat), k ≤ n ∧ s = .float .f64 r ∧ i = .int .i64 k ∧ w' = w.drewN m) (fun _ _ _ i _ => n - (intOf i).toNat)
    case atStart => exact ⟨_, 0, _, Nat.zero_le _, rfl, rfl, rfl⟩
    case round =>
      obtain ⟨r, k, m, hk, rfl, rfl, rfl⟩ := hrel
      by_cases hlt : k < n
      · have hc := hf k hlt
        go_wp2
        go_roundw
        case rel => exact ⟨_, k + 1, _, by omega, rfl, by go_num, rfl⟩
        case measure => simp [intOf]; omega
      · go_wp2_with (go_at_call 14; refine Calls.mono (HM.out _) ?_; rintro e w' ⟨r, n, rfl, rfl⟩)
        go_ret
        first | exact ⟨⟨_, rfl⟩, _, rfl⟩ | exact ⟨_, _, rfl, rfl⟩

set_option maxHeartbeats 1000000 in
theorem switches_any (s : Array Value) (p : Bool) (x lo hi : Nat) (w : World) (v0 v1 v2 v3 : Value) :
    Calls Ybaf.prog 15 #[.agg #[v0, v1, v2, v3, .float .f64 hi, .float .f64 lo], .bool p, .float .f64 x] w fun e w' => ∃ t, e = .returned (.bool t) ∧ w' = w.alloc (.cells #[v0, v1, v2, v3, .float .f64 hi, .float .f64 lo] 27) := by
  cases p
  · go_enter Ybaf.func15, Ybaf.ntmps15
    go_wp2
    go_ret
    exact ⟨_, rfl, rfl⟩
  · go_enter Ybaf.func15, Ybaf.ntmps15
    go_wp2
    go_ret
    exact ⟨_, rfl, rfl⟩

end Go.Proofs.YbulkcosFmt
