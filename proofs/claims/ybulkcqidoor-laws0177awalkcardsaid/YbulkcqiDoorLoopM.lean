import Derived.Test.YbulkcqiDoorLoopC
namespace Go.Proofs.YbulkcqiDoor
open Go.RowKit
set_option linter.unusedVariables false
set_option linter.unusedSimpArgs false

namespace Wlk
set_option maxRecDepth 100000 in
set_option maxHeartbeats 1000000 in
theorem loop_any (B : Nat) (M : MC) (far : Int) (V : Nat → Nat → Bool) (S : Nat → Bool) (D : Nat → Nat) (w : World) (hm : MatAt w M far (.slice none 0 0) V) (ht : Tabs w M S) (hd : DataAt w M.dv M.n D) (hT : Tab 0 w) (hB1 : B ≤ M.mb) (hB2 : B ≤ M.wb) (hB3 : B ≤ w.heap.size) (pos : Nat) (hpos : pos ≤ M.e) (he : M.e ≤ M.n) (hn : M.n ≤ 1024) :
    Calls Ybad.prog 5 #[.pointer (some ⟨M.mb, 0, none⟩), .int .u32 0, .int .u32 2, .int .i64 pos] w (LoopPost B M far V S D pos w) := by
  have HM : Hid (MatAt w M far (.slice none 0 0) V) := hm
  have HT : Hid (Tab 0 w) := hT
  have HTb : Hid (Tabs w M S) := ht
  have HD : Hid (DataAt w M.dv M.n D) := hd
  have c0 := hm.c0
  have p2 := hm.p2
  clear hm hT ht hd
  go_enter Ybad.func5, Ybad.ntmps5
  go_wp2
  go_quiet (fail)
  go_upto_block 0 with fail
  go_cut [10, 12] (fun v u wx => LEnd S D pos M.e w v u wx)
  case first =>
    go_wp2
    go_loopw [10, 12] (fun v u wr => LRel S D pos M.e w v u wr) (fun v _ _ => M.e - (intOf v).toNat)
    case atStart => exact ⟨pos, rfl, Nat.le_refl _, hpos, fun q x y => by omega, ⟨rfl, rfl, rfl, Nat.le_refl _, fun _ _ => rfl⟩⟩
    case round =>
      obtain ⟨i, rfl, h1, h2, h3, hB⟩ := hrel
      have kp := Kp.of_below (H := []) hB
      have hm : MatAt wr M far (.slice none 0 0) V := HM.out.kp kp (by simp) (by simp) (by simp) (by simp)
      have c2 := hm.c2
      have c4 := hm.c4
      have HB : Hid (Below w.heap.size w wr) := hB
      have H3 : Hid (∀ q, pos ≤ q → q < i → Tk S D q) := h3
      have HTb2 : Hid (Tabs wr M S) := HTb.out.kp kp (by simp) (by simp)
      clear hm hB h3 c0 p2
      by_cases hlt : i < M.e
      · obtain ⟨ao, dc, hdv, hrow0⟩ := HD.out
        obtain ⟨db, rfl, hrow⟩ := hrow0 (by omega)
        clear hrow0
        rw [hdv] at c2
        have cd := (hrow.kp kp (by simp)).cell (i := i) (by omega)
        have HDV : Hid (M.dv = .slice (some ⟨db, 0, none⟩) M.n dc) := hdv
        clear hdv hrow kp
        obtain ⟨x, hx⟩ : ∃ x, x = D i := ⟨_, rfl⟩
        simp only [← hx] at cd
        have HXD : Hid (x = D i) := hx
        clear hx
        by_cases hx : x < 128
        · have cs := HTb2.out.c (x / 64) (by omega)
          have hst := set_test S x hx
          by_cases hS : S x = true
          · have hst' : (bits BinOp.and IntKind.u64 ((setW S (x / 64) : Nat) : Int) (IntKind.u64.wrap ((2 : Int) ^ (x % 64))) == 0) = false := by rw [hst, hS]; rfl
            clear hst
            have R : ∀ u, LRel S D pos M.e w (.int .i64 ((i : Int) + 1)) u wr := fun u => ⟨i + 1, by simp, by omega, by omega, fun q y z => by
              by_cases hq : q < i
              · exact H3.out q y hq
              · rw [show q = i by omega]; exact ⟨by rw [← HXD.out]; exact hx, by rw [← HXD.out]; exact hS⟩, HB.out⟩
            go_wp2
            exact ⟨R _, by simp [intOf]; omega⟩
          · have hst' : (bits BinOp.and IntKind.u64 ((setW S (x / 64) : Nat) : Int) (IntKind.u64.wrap ((2 : Int) ^ (x % 64))) == 0) = true := by rw [hst]; simp [hS]
            clear hst
            have R : ∀ u, LEnd S D pos M.e w (.int .i64 (i : Int)) u wr := fun u => ⟨i, rfl, ⟨h1, h2, H3.out, .inr fun hk => hS (by have := hk.2; rw [← HXD.out] at this; exact this)⟩, HB.out⟩
            go_wp2
            go_meet
            case rel => exact R _
        · have R : ∀ u, LEnd S D pos M.e w (.int .i64 (i : Int)) u wr := fun u => ⟨i, rfl, ⟨h1, h2, H3.out, .inr fun hk => hx (by have := hk.1; rw [← HXD.out] at this; exact this)⟩, HB.out⟩
          go_wp2
          go_meet
          case rel => exact R _
      · have R : ∀ u, LEnd S D pos M.e w (.int .i64 (i : Int)) u wr := fun u => ⟨i, rfl, ⟨h1, h2, H3.out, .inl (by omega)⟩, HB.out⟩
        go_wp2
        go_meet
        case rel => exact R _
  case rest =>
    obtain ⟨E, rfl, hend, hbc⟩ := hcut
    have HE : Hid (EndAt S D pos M.e E) := hend
    have hE1 : pos ≤ E := hend.1
    have hE2 : E ≤ M.e := hend.2.1
    have HBc : Hid (Below w.heap.size w wc) := hbc
    have HF : Hid (∀ (a lo : Nat) (w' : World), a < 3 → lo ≤ E + 1 → Below w.heap.size w w' → Calls Ybad.prog 6 #[.pointer (some ⟨M.mb, 0, none⟩), .int .u32 a, .int .i64 lo, .int .i64 E] w' (FPost V a lo E w')) := fun a lo w' ha hlo hb => by
      refine first_any M far _ V w' (HM.out.kp (Kp.of_below (H := []) hb) (by simp) (by simp) (by simp) (by simp)) (fun j hj => ?_) a lo E ha hlo (by omega) hn
      have hc := HT.out j hj
      rw [hb.cell (p := ⟨0, j, none⟩) (tab_lt HT.out)]
      exact hc
    have HF2 : Hid (∀ (w' : World), Below w.heap.size w w' → Calls Ybad.prog 6 #[.pointer (some ⟨M.mb, 0, none⟩), .int .u32 2, .int .i64 pos, .int .i64 E] w' (FPost V 2 pos E w')) := fun w' hb => HF.out 2 pos w' (by decide) (by omega) hb
    have HF0 : Hid (∀ (w' : World), Below w.heap.size w w' → Calls Ybad.prog 6 #[.pointer (some ⟨M.mb, 0, none⟩), .int .u32 0, .int .i64 ((pos : Int) + 1), .int .i64 E] w' (FPost V 0 (pos + 1) E w')) := fun w' hb => by
      have h := HF.out 0 (pos + 1) w' (by decide) (by omega) hb
      simpa using h
    clear hend hbc HF c0 p2
    go_upto_region 8 with (first
      | (go_at_call 6; refine (HF0.out _ HB1.out).mono ?_; rintro e w2 ⟨l, rfl, l1, l2, l3, l4, hb2⟩; (have FB : Hid (FirstAt V 0 (pos + 1) E l) := ⟨l1, l2, l3, l4⟩); (have HB2 : Hid (Below w.heap.size w w2) := HB1.out.trans (hb2.mono HB1.out.size)); clear l3 l4 hb2)
      | (go_at_call 6; refine (HF2.out _ HBc.out).mono ?_; rintro e w1 ⟨b, rfl, b1, b2, b3, b4, hb1⟩; (have FA : Hid (FirstAt V 2 pos E b) := ⟨b1, b2, b3, b4⟩); (have HB1 : Hid (Below w.heap.size w w1) := HBc.out.trans (hb1.mono HBc.out.size)); clear b3 b4 hb1))
    go_cut [76] (fun v wx => v = .bool (decide (l ≤ b ∧ l ≤ E)) ∧ wx = w2)
    case first =>
      by_cases q1 : l ≤ b
      · by_cases q2 : l ≤ E
        · go_wp2
          go_meet
          case rel => exact ⟨congrArg Value.bool (decide_eq_true (p := l ≤ b ∧ l ≤ E) ⟨q1, q2⟩).symm, rfl⟩
        · go_wp2
          go_meet
          case rel => exact ⟨congrArg Value.bool (decide_eq_false (p := l ≤ b ∧ l ≤ E) (fun h => q2 h.2)).symm, rfl⟩
      · go_wp2
        go_meet
        case rel => exact ⟨congrArg Value.bool (decide_eq_false (p := l ≤ b ∧ l ≤ E) (fun h => q1 h.1)).symm, rfl⟩
    case rest =>
      obtain ⟨rfl, rfl⟩ := hcut
      go_upto_if 76 with fail
      go_cut [13, 14] (fun v u wx => ∃ (last : Nat) (going : Bool), v = .int .i64 last ∧ u = .bool going ∧ Stops V pos E last going ∧ wx = wc)
      case first =>
        by_cases q : l ≤ b ∧ l ≤ E
        · have qd : decide (l ≤ b ∧ l ≤ E) = true := decide_eq_true q
          have hL : ((l : Int) - 1) = ((l - 1 : Nat) : Int) := by omega
          have HS : Hid (Stops V pos E (l - 1) false) := stops_loop hE1 FA.out FB.out q.1 q.2
          go_wp2
          go_meet
          case rel => exact ⟨l - 1, false, by first | rfl | rw [hL], rfl, HS.out, rfl⟩
        · have qd : decide (l ≤ b ∧ l ≤ E) = false := decide_eq_false q
          by_cases q2 : b ≤ E
          · have HS : Hid (Stops V pos E b false) := stops_body hE1 FA.out FB.out q q2
            have HQ : Hid (¬ (l ≤ b ∧ l ≤ E)) := q
            clear q
            go_wp2
            go_meet
            case rel => exact ⟨b, false, rfl, rfl, HS.out, rfl⟩
          · have HS : Hid (Stops V pos E E true) := stops_end hE1 FA.out FB.out q q2
            have HQ : Hid (¬ (l ≤ b ∧ l ≤ E)) := q
            clear q
            go_wp2
            go_meet
            case rel => exact ⟨E, true, rfl, rfl, HS.out, rfl⟩
      case rest =>
        obtain ⟨last, going, rfl, rfl, hst, rfl⟩ := hcut
        refine ‹∀ (a : Act) (w : World), Code.wp Ybad.prog _ _ a w → _› _ _ ?_
        exact loop_tail1 B M far V S D w _ pos E last going _ _ _ _ _ _ _ _ _ _ _ _ _ _ _ _ _ _ _ _ _ _ _ _ _ _ _ _ _ _ _ _ _ _ _ _ _ _ _ _ _ _ _ _ _ _ _ _ _ _ _ _ _ _ _ _ _ _ _ _ _ _ _ _ _ _ _ _ _ _ _ _ _ _ _ _ _ _ _ _ _ _ _ _ _ _ _ _ _ _ _ _ _ _ _ _ _ _ _ _ _ _ _ _ _ _ _ _ _ _ _ _ _ _ _ _ _ _ _ _ _ _ _ (HM.out.kp (Kp.of_below (H := []) HB2.out) (by simp) (by simp) (by simp) (by simp)) (HTb.out.kp (Kp.of_below (H := []) HB2.out) (by simp) (by simp)) HB2.out hB3 hB1 hB2 HE.out hst he hn
end Wlk
end Go.Proofs.YbulkcqiDoor
