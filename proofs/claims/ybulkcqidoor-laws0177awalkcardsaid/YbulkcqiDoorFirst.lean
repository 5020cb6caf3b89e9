import Derived.Test.YbulkcqiDoorMat
namespace Go.Proofs.YbulkcqiDoor
open Go.RowKit
set_option linter.unusedVariables false
set_option linter.unusedSimpArgs false

namespace Wlk
/-- What firstVisited leaves. -/
def FPost (V : Nat → Nat → Bool) (a lo hi : Nat) (w : World) (e : Ending) (w' : World) : Prop := ∃ r : Nat, e = .returned (.int .i64 r) ∧ lo ≤ r ∧ r ≤ hi + 1 ∧ (∀ q, lo ≤ q → q < r → V a q = false) ∧ (r ≤ hi → V a r = true) ∧ Below w.heap.size w w'
def FRel (V : Nat → Nat → Bool) (a lo hi : Nat) (w : World) (v u : Value) (wr : World) : Prop := ∃ i : Nat, v = .int .i64 i ∧ lo ≤ i ∧ i ≤ hi + 64 ∧ (∀ q, lo ≤ q → q < i → q ≤ hi → V a q = false) ∧ Below w.heap.size w wr

set_option maxHeartbeats 2000000 in
theorem first_any (M : MC) (far : Int) (stk : Value) (V : Nat → Nat → Bool) (w : World) (hm : MatAt w M far stk V) (hT : Tab 0 w) (a lo hi : Nat) (ha : a < 3) (hlo : lo ≤ hi + 1) (hhi : hi ≤ M.n) (hn : M.n ≤ 1024) :
    Calls Ybad.prog 6 #[.pointer (some ⟨M.mb, 0, none⟩), .int .u32 a, .int .i64 lo, .int .i64 hi] w (FPost V a lo hi w) := by
  have HT : Hid (Tab 0 w) := hT
  have HM : Hid (MatAt w M far stk V) := hm
  have c3 := hm.c3
  clear hm hT
  go_enter Ybad.func6, Ybad.ntmps6
  go_wp2
  go_loopw [9, 10] (fun v u wr => FRel V a lo hi w v u wr) (fun v _ _ => hi + 65 - (intOf v).toNat)
  case atStart => exact ⟨lo, by simp, Nat.le_refl _, by omega, fun q h1 h2 => by omega, Below.refl _ _⟩
  case round =>
    obtain ⟨i, rfl, h1, h2, h3, hB⟩ := hrel
    have hm : MatAt wr M far stk V := HM.out.kp (Kp.of_below (H := []) hB) (by simp) (by simp) (by simp) (by simp)
    have c0 := hm.c0
    have c3 := hm.c3
    have c6 := hm.c6
    have p0 := hm.p0
    have g0 := hm.g0
    have HW : Hid (Row wr M.wb 25 (fun i => .int .u64 (wordOf V i)) M.N) := hm.wd
    have HB : Hid (Below w.heap.size w wr) := hB
    have H3 : Hid (∀ q, lo ≤ q → q < i → q ≤ hi → V a q = false) := h3
    clear hm hB h3
    by_cases hle : i ≤ hi
    · have hN : i / 64 * 3 + a < M.N := by unfold MC.N; omega
      have cw := HW.out.cell hN
      obtain ⟨X, hX⟩ : ∃ X, X = wordOf V (i / 64 * 3 + a) / 2 ^ (i % 64) := ⟨_, rfl⟩
      have HX : Hid ((wordOf V (i / 64 * 3 + a) : Int) / 2 ^ (i % 64) = (X : Int)) := by show _ = _; rw [hX]; simp
      have HX2 : Hid (X = wordOf V (i / 64 * 3 + a) / 2 ^ (i % 64)) := hX
      have hXl : X < 18446744073709551616 := by rw [hX]; exact Nat.lt_of_le_of_lt (Nat.div_le_self _ _) (wordOf_lt V _)
      clear hX
      by_cases h0 : X = 0
      · have h0' : ((X : Int) == 0) = true := by simp [h0]
        go_wp2
        go_quiet (fail)
        rw [HX.out]
        go_wp2
        have R : ∀ u, FRel V a lo hi w (.int .i64 (((i : Int) / 64 + 1) * 64)) u (wr.drewN nq) := fun u => ⟨(i / 64 + 1) * 64, by simp, by omega, by omega, fun q x y z => by
          by_cases hq : q < i
          · exact H3.out q x hq z
          · exact none_in_word V a i ha (by rw [← HX2.out]; exact h0) q (by omega) y, HB.out.trans ⟨rfl, rfl, rfl, Nat.le_refl _, fun _ _ => rfl⟩⟩
        go_roundw
        case rel => first | exact R _ | ((repeat apply Exists.intro); exact ⟨R _, rfl⟩)
        case measure => simp [intOf]; omega
      · have h0' : ((X : Int) == 0) = false := by simp; omega
        have HF := first_in_word V a i ha (by rw [← HX2.out]; exact h0)
        rw [← HX2.out] at HF
        have hct := (ctz_spec X h0 hXl).1
        obtain ⟨c, hc⟩ : ∃ c, c = Lib.ctz 64 X := ⟨_, rfl⟩
        rw [← hc] at hct HF
        have HC : Hid (c = Lib.ctz 64 X) := hc
        have HF' : Hid (V a (i + c) = true ∧ ∀ q, i ≤ q → q < i + c → V a q = false) := HF
        clear HF hc
        go_wp2
        go_quiet (fail)
        rw [HX.out]
        obtain ⟨w2, hw2⟩ : ∃ w2, wr.drewN nq = w2 := ⟨_, rfl⟩
        have k3 : w2.cell? ⟨M.mb, 3, none⟩ = some (.int .i64 0) := by rw [← hw2]; exact c3
        have HB2 : Hid (Below w.heap.size w w2) := by rw [← hw2]; exact HB.out.trans ⟨rfl, rfl, rfl, Nat.le_refl _, fun _ _ => rfl⟩
        rw [hw2]
        clear hw2
        have Rf : ∀ k, Below w.heap.size w (w2.drewN k) := fun k => HB2.out.trans ⟨rfl, rfl, rfl, Nat.le_refl _, fun _ _ => rfl⟩
        have HTz : Hid (∀ w3 : World, w3.heap = w2.heap → Calls Ybad.prog 8 #[.int .u64 X] w3 fun e w' => e = .returned (.int .i64 c) ∧ ∃ n, w' = w3.drewN n) := fun w3 hh => by
          rw [HC.out]
          refine (tz64 X hXl h0 w3 (fun j hj => ?_)).mono (by rintro e w' ⟨rfl, rfl⟩; exact ⟨rfl, 0, rfl⟩)
          have h0l : 0 < w.heap.size := by
            have := HT.out 0 (by decide)
            rcases Nat.lt_or_ge 0 w.heap.size with hl | hl
            · exact hl
            · simp [World.cell?, Array.getElem?_eq_none hl] at this
          have hb : w3.heap[0]? = w2.heap[0]? := by rw [hh]
          rw [World.cell?_of_block (w := w2) hb, World.cell?_of_block (w := w) (HB2.out.block 0 h0l)]
          exact HT.out j hj
        by_cases hmin : i + c < hi + 1
        · have hP : ∀ k, FPost V a lo hi w (.returned (.int .i64 ((i : Int) + c))) (w2.drewN k) := fun k => ⟨i + c, by simp, by omega, by omega, fun q x y => by
            by_cases hq : q < i
            · exact H3.out q x hq (by omega)
            · exact HF'.out.2 q (by omega) y, fun _ => HF'.out.1, Rf k⟩
          go_wp2
          go_quiet (first | (go_at_call 8; refine Calls.quiet_of (HTz.out _ ?_); exact rfl))
          go_wp2
          go_ret
          exact hP _
        · have hP : ∀ k, FPost V a lo hi w (.returned (.int .i64 ((hi : Int) + 1))) (w2.drewN k) := fun k => ⟨hi + 1, by simp, by omega, by omega, fun q x y => by
            by_cases hq : q < i
            · exact H3.out q x hq (by omega)
            · exact HF'.out.2 q (by omega) (by omega), fun _ => by omega, Rf k⟩
          go_wp2
          go_quiet (first | (go_at_call 8; refine Calls.quiet_of (HTz.out _ ?_); exact rfl))
          go_wp2
          all_goals go_ret
          all_goals first
            | exact hP _
            | (have he : (i : Int) + c = hi + 1 := by omega
               rw [he]; exact hP _)
    · go_wp2
      go_ret
      exact ⟨hi + 1, rfl, by omega, by omega, fun q x y => H3.out q x (by omega) (by omega), fun h => by omega, HB.out⟩
end Wlk
end Go.Proofs.YbulkcqiDoor
