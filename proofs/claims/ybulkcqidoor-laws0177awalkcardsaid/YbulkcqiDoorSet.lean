import Derived.Test.YbulkcqiDoorMat
namespace Go.Proofs.YbulkcqiDoor
open Go.RowKit
set_option linter.unusedVariables false
set_option linter.unusedSimpArgs false

namespace Wlk
/-- What setVisited leaves. -/
def SPost (B : Nat) (M : MC) (far : Int) (stk : Value) (V : Nat → Nat → Bool) (a lo : Nat) (hi : Int) (w : World) (e : Ending) (w' : World) : Prop := (∃ v, e = .returned v) ∧ MatAt w' M (if far < hi then hi else far) stk (markR V a lo (hi + 1).toNat) ∧ Kp [25, 49] w w' ∧ Below B w w'
def SRel (B : Nat) (M : MC) (far : Int) (stk : Value) (V : Nat → Nat → Bool) (a lo : Nat) (hi : Int) (w : World) (v u : Value) (wr : World) : Prop := ∃ i : Nat, v = .int .i64 i ∧ lo ≤ i ∧ ((i : Int) ≤ lo ∨ (i : Int) ≤ hi + 1) ∧ MatAt wr M far stk (markR V a lo i) ∧ Kp [25] w wr ∧ Below B w wr

theorem markR_eq (V : Nat → Nat → Bool) (a lo i k : Nat) (h : i = k ∨ (i ≤ lo ∧ k ≤ lo)) : markR V a lo i = markR V a lo k := by
  rcases h with rfl | ⟨h1, h2⟩
  · rfl
  · funext x p
    unfold markR
    by_cases hx : lo ≤ p
    · have c1 : ¬ p < i := by omega
      have c2 : ¬ p < k := by omega
      simp [c1, c2]
    · simp [hx]

set_option maxHeartbeats 4000000 in
theorem set_any (B : Nat) (M : MC) (far : Int) (stk : Value) (V : Nat → Nat → Bool) (w : World) (hm : MatAt w M far stk V) (hB1 : B ≤ M.mb) (hB2 : B ≤ M.wb) (a lo : Nat) (hi : Int) (ha : a < 3) (hlo : lo ≤ M.n + 1) (hhi : hi ≤ M.n) (hhi0 : -1 ≤ hi) (hn : M.n ≤ 1024) :
    Calls Ybad.prog 7 #[.pointer (some ⟨M.mb, 0, none⟩), .int .u32 a, .int .i64 lo, .int .i64 hi] w (SPost B M far stk V a lo hi w) := by
  have HM : Hid (MatAt w M far stk V) := hm
  have c3 := hm.c3
  clear hm
  go_enter Ybad.func7, Ybad.ntmps7
  go_wp2
  go_loopw [8, 9] (fun v u wr => SRel B M far stk V a lo hi w v u wr) (fun v _ _ => M.n + 2 - (intOf v).toNat)
  case atStart => 
    refine ⟨lo, by simp, Nat.le_refl _, .inl (Int.le_refl _), ?_, Kp.refl _ _, Below.refl _ _⟩
    have hm := HM.out
    exact ⟨hm.m, hm.p, hm.g, hm.wd.congr fun j hj => by
      rw [wordOf_congr V (markR V a lo lo) j (fun b hb => ?_)]
      unfold markR
      by_cases hx : lo ≤ j / 3 * 64 + b
      · have hy : ¬ j / 3 * 64 + b < lo := by omega
        simp [hy]
      · simp [hx]⟩
  case round =>
    obtain ⟨i, rfl, h1, h2, hm, hK, hB⟩ := hrel
    have c0 := hm.c0
    have c3 := hm.c3
    have c5 := hm.c5
    have c6 := hm.c6
    have p0 := hm.p0
    have g0 := hm.g0
    have fr := hm.free
    have fw := hm.wd.free
    have HW : Hid (Row wr M.wb 25 (fun j => .int .u64 (wordOf (markR V a lo i) j)) M.N) := hm.wd
    have HB : Hid (Below B w wr) := hB
    have HK : Hid (Kp [25] w wr) := hK
    have HM2 : Hid (MatAt wr M far stk (markR V a lo i)) := hm
    clear hm hB hK
    by_cases hle : (i : Int) ≤ hi
    · obtain ⟨hz, rfl⟩ : ∃ hz : Nat, hi = (hz : Int) := ⟨hi.toNat, by omega⟩
      have hle' : i ≤ hz := by omega
      have hN : i / 64 * 3 + a < M.N := by unfold MC.N; omega
      have cw := HW.out.cell hN
      by_cases hmin : 64 - i % 64 < hz + 1 - i
      · have hmin' : (64 : Int) - i % 64 < hz + 1 - i := by omega
        go_wp2
        obtain ⟨nn, hnn⟩ : ∃ nn : Nat, nn = 64 - i % 64 := ⟨_, rfl⟩
        have hnn' : (64 : Int) - i % 64 = nn := by omega
        rw [hnn']
        have HNN : Hid (nn = 64 - i % 64) := hnn
        have hn1 : nn + i % 64 ≤ 64 := by omega
        have hn2 : 1 ≤ nn := by omega
        have hn3 : i + nn ≤ hz + 1 := by omega
        clear hnn hnn'
        have HX : Hid (bits BinOp.or IntKind.u64 ((wordOf (markR V a lo i) (i / 64 * 3 + a) : Nat) : Int) (IntKind.u64.wrap ((18446744073709551615 : Int) / 2 ^ (64 - nn) * 2 ^ (i % 64))) = ((wordOf (markR V a lo i) (i / 64 * 3 + a) ||| (2 ^ nn - 1) * 2 ^ (i % 64) : Nat) : Int)) := by
          show _ = _
          rw [mask_int nn _ hn1, bits_or_u64_nat _ _ (wordOf_lt _ _) (mask_lt nn _ hn1)]
        have hx2 := word_markR V a lo i nn (ha := ha) (hl := h1) (hn := hn1)
        have R : ∀ u, SRel B M far stk V a lo hz w (.int .i64 ((i : Int) + nn)) u (wr.setCell ⟨M.wb, i / 64 * 3 + a, none⟩ (.int .u64 ((wordOf (markR V a lo i) (i / 64 * 3 + a) ||| (2 ^ nn - 1) * 2 ^ (i % 64) : Nat) : Int))).drew := fun u =>
          ⟨i + nn, by simp, by omega, .inr (by omega), (HM2.out.mark hN (fun j => by rw [hx2 j]; split <;> simp_all)).drew, ⟨(HM2.out.kpw HK.out (by decide) _ _).size, (HM2.out.kpw HK.out (by decide) _ _).block⟩, (HB.out.setCell (by exact hB2) _).drew⟩
        have HR : Hid (∀ u, SRel B M far stk V a lo hz w (.int .i64 ((i : Int) + nn)) u (wr.setCell ⟨M.wb, i / 64 * 3 + a, none⟩ (.int .u64 ((wordOf (markR V a lo i) (i / 64 * 3 + a) ||| (2 ^ nn - 1) * 2 ^ (i % 64) : Nat) : Int))).drew) := R
        clear R hx2
        go_region
        rw [HX.out]
        go_wp2
        go_roundw
        case rel => first | exact HR.out _ | ((repeat apply Exists.intro); exact ⟨HR.out _, rfl⟩)
        case measure => simp [intOf]; omega
      · by_cases hm3 : hz + 1 - i < 64 - i % 64
        · have hmin' : (hz : Int) + 1 - i < (64 : Int) - i % 64 := by omega
          go_wp2
          obtain ⟨nn, hnn⟩ : ∃ nn : Nat, nn = hz + 1 - i := ⟨_, rfl⟩
          have hnn' : (hz : Int) + 1 - i = nn := by omega
          rw [hnn']
          have HNN : Hid (nn = hz + 1 - i) := hnn
          have hn1 : nn + i % 64 ≤ 64 := by omega
          have hn2 : 1 ≤ nn := by omega
          have hn3 : i + nn ≤ hz + 1 := by omega
          clear hnn hnn'
          have HX : Hid (bits BinOp.or IntKind.u64 ((wordOf (markR V a lo i) (i / 64 * 3 + a) : Nat) : Int) (IntKind.u64.wrap ((18446744073709551615 : Int) / 2 ^ (64 - nn) * 2 ^ (i % 64))) = ((wordOf (markR V a lo i) (i / 64 * 3 + a) ||| (2 ^ nn - 1) * 2 ^ (i % 64) : Nat) : Int)) := by
            show _ = _
            rw [mask_int nn _ hn1, bits_or_u64_nat _ _ (wordOf_lt _ _) (mask_lt nn _ hn1)]
          have hx2 := word_markR V a lo i nn (ha := ha) (hl := h1) (hn := hn1)
          have R : ∀ u, SRel B M far stk V a lo hz w (.int .i64 ((i : Int) + nn)) u (wr.setCell ⟨M.wb, i / 64 * 3 + a, none⟩ (.int .u64 ((wordOf (markR V a lo i) (i / 64 * 3 + a) ||| (2 ^ nn - 1) * 2 ^ (i % 64) : Nat) : Int))).drew := fun u =>
            ⟨i + nn, by simp, by omega, .inr (by omega), (HM2.out.mark hN (fun j => by rw [hx2 j]; split <;> simp_all)).drew, ⟨(HM2.out.kpw HK.out (by decide) _ _).size, (HM2.out.kpw HK.out (by decide) _ _).block⟩, (HB.out.setCell (by exact hB2) _).drew⟩
          have HR : Hid (∀ u, SRel B M far stk V a lo hz w (.int .i64 ((i : Int) + nn)) u (wr.setCell ⟨M.wb, i / 64 * 3 + a, none⟩ (.int .u64 ((wordOf (markR V a lo i) (i / 64 * 3 + a) ||| (2 ^ nn - 1) * 2 ^ (i % 64) : Nat) : Int))).drew) := R
          clear R hx2
          go_region
          rw [HX.out]
          go_wp2
          go_roundw
          case rel => first | exact HR.out _ | ((repeat apply Exists.intro); exact ⟨HR.out _, rfl⟩)
          case measure => simp [intOf]; omega
        · have hmin' : (hz : Int) + 1 - i = (64 : Int) - i % 64 := by omega
          go_wp2
          obtain ⟨nn, hnn⟩ : ∃ nn : Nat, nn = 64 - i % 64 := ⟨_, rfl⟩
          have hnn' : (64 : Int) - i % 64 = nn := by omega
          rw [hnn']
          have HNN : Hid (nn = 64 - i % 64) := hnn
          have hn1 : nn + i % 64 ≤ 64 := by omega
          have hn2 : 1 ≤ nn := by omega
          have hn3 : i + nn ≤ hz + 1 := by omega
          clear hnn hnn'
          have HX : Hid (bits BinOp.or IntKind.u64 ((wordOf (markR V a lo i) (i / 64 * 3 + a) : Nat) : Int) (IntKind.u64.wrap ((18446744073709551615 : Int) / 2 ^ (64 - nn) * 2 ^ (i % 64))) = ((wordOf (markR V a lo i) (i / 64 * 3 + a) ||| (2 ^ nn - 1) * 2 ^ (i % 64) : Nat) : Int)) := by
            show _ = _
            rw [mask_int nn _ hn1, bits_or_u64_nat _ _ (wordOf_lt _ _) (mask_lt nn _ hn1)]
          have hx2 := word_markR V a lo i nn (ha := ha) (hl := h1) (hn := hn1)
          have R : ∀ u, SRel B M far stk V a lo hz w (.int .i64 ((i : Int) + nn)) u (wr.setCell ⟨M.wb, i / 64 * 3 + a, none⟩ (.int .u64 ((wordOf (markR V a lo i) (i / 64 * 3 + a) ||| (2 ^ nn - 1) * 2 ^ (i % 64) : Nat) : Int))).drew := fun u =>
            ⟨i + nn, by simp, by omega, .inr (by omega), (HM2.out.mark hN (fun j => by rw [hx2 j]; split <;> simp_all)).drew, ⟨(HM2.out.kpw HK.out (by decide) _ _).size, (HM2.out.kpw HK.out (by decide) _ _).block⟩, (HB.out.setCell (by exact hB2) _).drew⟩
          have HR : Hid (∀ u, SRel B M far stk V a lo hz w (.int .i64 ((i : Int) + nn)) u (wr.setCell ⟨M.wb, i / 64 * 3 + a, none⟩ (.int .u64 ((wordOf (markR V a lo i) (i / 64 * 3 + a) ||| (2 ^ nn - 1) * 2 ^ (i % 64) : Nat) : Int))).drew) := R
          clear R hx2
          go_region
          rw [HX.out]
          go_wp2
          go_roundw
          case rel => first | exact HR.out _ | ((repeat apply Exists.intro); exact ⟨HR.out _, rfl⟩)
          case measure => simp [intOf]; omega
    · have he : markR V a lo i = markR V a lo (hi + 1).toNat := markR_eq V a lo i _ (by omega)
      by_cases hf : far < hi
      · have HE : Hid (∀ v, SPost B M far stk V a lo hi w (.returned v) (wr.setCell ⟨M.mb, 5, none⟩ (.int .i64 hi))) := by
          show ∀ v, (∃ u, Ending.returned v = .returned u) ∧ _ ∧ _ ∧ _
          intro v
          rw [if_pos hf, ← he]
          exact ⟨⟨_, rfl⟩, HM2.out.setFar _, HM2.out.kpm (HK.out.wide (by simp)) (by decide) _ _, HB.out.setCell (by exact hB1) _⟩
        go_wp2
        go_end0
        exact HE.out _
      · have HE : Hid (∀ v, SPost B M far stk V a lo hi w (.returned v) (wr.setCell ⟨M.mb, 5, none⟩ (.int .i64 far))) := by
          show ∀ v, (∃ u, Ending.returned v = .returned u) ∧ _ ∧ _ ∧ _
          intro v
          rw [if_neg hf, ← he]
          exact ⟨⟨_, rfl⟩, HM2.out.setFar _, HM2.out.kpm (HK.out.wide (by simp)) (by decide) _ _, HB.out.setCell (by exact hB1) _⟩
        go_wp2
        all_goals go_end0
        all_goals first
          | exact HE.out _
          | (have hq : hi = far := by omega
             rw [hq] at HE ⊢; exact HE.out _)
end Wlk
end Go.Proofs.YbulkcqiDoor
