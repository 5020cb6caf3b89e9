import Derived.Test.YbulkcosFmtObs1
namespace Go.Proofs.YbulkcosFmt
open Go.RowKit
set_option linter.unusedVariables false
set_option linter.unusedSimpArgs false
attribute [local go_sem] run_store_float

/-- WHAT THE WALK IS TOLD OF THE SLICE OF BYTES THAT CAME IN. -/
def IsRow (k : IntKind) (w : World) (a : Option Addr) (len cap : Nat) (zs : List Int) : Prop :=
  (a = none ∧ len = 0 ∧ cap = 0 ∧ zs = []) ∨
  ∃ x, a = some x ∧ len ≤ cap ∧ cap ≤ maxLen ∧ zs.length = cap ∧ (∀ i, i < zs.length → w.cell? (x.add i) = some (.int k (zs.getD i 0))) ∧ ∀ n ∈ zs, (Lit.int k n).wf = true

/-- Every byte over 255 is a number from 0 to 1. -/
def rateCheck (n : Nat) : Bool :=
  match floatBits .quo .f64 (floatOfInt .f64 (n : Int)) 4643176031446892544 with
  | some r => ((FloatKind.format .f64).order r 0 == some .gt || (FloatKind.format .f64).order r 0 == some .eq) && ((FloatKind.format .f64).order r 4607182418800017408 == some .lt || (FloatKind.format .f64).order r 4607182418800017408 == some .eq)
  | none => false

theorem rate_all : ∀ n : Fin 256, rateCheck n.val = true := by decide +kernel

theorem rate_ok (z : Int) (h0 : 0 ≤ z) (h1 : z ≤ 255) : ∃ r, floatBits .quo .f64 (floatOfInt .f64 z) 4643176031446892544 = some r ∧
    ((FloatKind.format .f64).order r 0 == some .gt || (FloatKind.format .f64).order r 0 == some .eq) = true ∧ ((FloatKind.format .f64).order r 4607182418800017408 == some .lt || (FloatKind.format .f64).order r 4607182418800017408 == some .eq) = true := by
  obtain ⟨n, rfl⟩ := Int.eq_ofNat_of_zero_le h0
  have h := rate_all ⟨n, by omega⟩
  unfold rateCheck at h
  simp only at h
  cases hf : floatBits .quo .f64 (floatOfInt .f64 (n : Int)) 4643176031446892544 with
  | none => rw [hf] at h; cases h
  | some r =>
    rw [hf] at h
    exact ⟨r, rfl, (Bool.and_eq_true _ _ ▸ h).1, (Bool.and_eq_true _ _ ▸ h).2⟩

theorem order_nan_left (a c : Nat) (h : nanB a = true) : ((FloatKind.format .f64).order a c == some .eq) = false := by
  unfold nanB at h; unfold Ieee.Format.order
  cases hr : (FloatKind.format .f64).read a <;> rw [hr] at h <;> first | (cases h; done) | simp [Ieee.Datum.order]

theorem Eqv.order {a b c : Nat} (h : Eqv a b) : ((FloatKind.format .f64).order a c == some .eq) = ((FloatKind.format .f64).order b c == some .eq) := by
  rcases h with rfl | ⟨h1, h2⟩
  · rfl
  · rw [order_nan_left _ _ h1, order_nan_left _ _ h2]

theorem u8_bounds {a : Int} (h : (Lit.int .u8 a).wf = true) : 0 ≤ a ∧ a ≤ 255 := by
  simp only [Lit.wf, decide_eq_true_eq, Bool.and_eq_true] at h
  exact h

theorem row_at {w : World} {ao : Option Addr} {len cap : Nat} {zs : List Int} (h : IsRow .u8 w ao len cap zs) (hl : 0 < len) :
    ∃ b off, ao = some ⟨b, off, none⟩ ∧ b < w.heap.size ∧ ∀ i, i < len → ∃ z : Int, w.cell? ⟨b, off + i, none⟩ = some (.int .u8 z) ∧ 0 ≤ z ∧ z ≤ 255 := by
  rcases h with ⟨_, h, _⟩ | ⟨⟨b, off, sp⟩, rfl, hlc, _, hz, hc, hw⟩
  · omega
  · have h0 := hc 0 (by omega)
    obtain rfl : sp = none := by
      cases sp with
      | none => rfl
      | some s =>
        exfalso
        unfold World.cell? at h0
        split at h0
        · simp [Addr.add] at h0
        · cases h0
    refine ⟨b, off, rfl, ?_, fun i hi => ?_⟩
    · rw [Addr.add_lit] at h0
      rcases Nat.lt_or_ge b w.heap.size with h | h
      · exact h
      · simp [World.cell?, Array.getElem?_eq_none h] at h0
    · have h1 := hc i (by omega)
      rw [Addr.add_lit] at h1
      have hm : zs.getD i 0 ∈ zs := by
        rw [List.getD_eq_getElem?_getD, List.getElem?_eq_getElem (by omega)]
        simp
      exact ⟨_, h1, u8_bounds (hw _ hm)⟩

/-- The loop's relation. -/
def LRel (q : Int) (len : Nat) (w : World) (ve vo vp vi : Value) (wr : World) : Prop :=
  ∃ (rule : Int) (k err obs fc e o : Nat) (rv : Value) (n : Nat) (xs : List Nat) (ob av fb : Nat) (ps : Bool),
    (rule = 0 ∨ rule = 1 ∨ rule = 2) ∧ k ≤ len ∧ ve = .float .f64 err ∧ vo = .float .f64 obs ∧ vp = .float .f64 fc ∧ vi = .int .i64 k ∧ Blk wr w.heap.size (fBlk rule q rv k ob av fb fc ps e o) 32 ∧
    wr.ownsRow w.heap.size 25 1 rv n (xs.map (Value.float .f64)) ∧ (n : Int) ≤ q ∧ Below w.heap.size w wr ∧ Eqv e err ∧ Eqv o obs

theorem lrel_start (q : Int) (len : Nat) (w : World) (rule : Int) (hr : rule = 0 ∨ rule = 1 ∨ rule = 2) (hq : 1 ≤ q) :
    LRel q len w (.float .f64 0) (.float .f64 0) (.float .f64 0) (.int .i64 0) (w.alloc (.cells (fBlk rule q (.slice none 0 0) 0 0 0 0 0 false 0 0) 32)) :=
  ⟨rule, 0, 0, 0, 0, 0, 0, _, 0, [], 0, 0, 0, false, hr, Nat.zero_le _, rfl, rfl, rfl, rfl, Blk.new _ _ _, World.ownsRow_nil _ _ _ _, by omega, (Below.refl _ _).alloc (Nat.le_refl _) _, .inl rfl, .inl rfl⟩

section
variable {q : Int} {len : Nat} {w wr w2 : World} {rule : Int} {k err obs fc e o err' obs' fc' e' o' : Nat} {g n cap : Nat} {xs : List Nat} {av fb rate : Nat} {ps : Bool}
theorem lrel_next (hr : rule = 0 ∨ rule = 1 ∨ rule = 2) (hk : k < len) (hB : Blk w2 w.heap.size (fBlk rule q (.slice (some ⟨g, 0, none⟩) n cap) ((k : Int) + 1) rate av fb fc' ps e' o') 32)
    (hown : w2.ownsRow w.heap.size 25 1 (.slice (some ⟨g, 0, none⟩) n cap) n (xs.map (Value.float .f64))) (hn : (n : Int) ≤ q) (hbel : Below w.heap.size w wr) (d : Nat) (hbel2 : Below w.heap.size (wr.drewN d) w2) (o1 : Obj)
    (h1 : Eqv e' err') (h2 : Eqv o' obs') : LRel q len w (.float .f64 err') (.float .f64 obs') (.float .f64 fc') (.int .i64 ((k : Int) + 1)) (w2.alloc o1) := by
  have hb : Below w.heap.size w w2 := (below_drewN hbel d).trans hbel2
  refine ⟨rule, k + 1, err', obs', fc', e', o', _, n, xs, rate, av, fb, ps, hr, hk, rfl, rfl, rfl, by go_num, ?_, hown.alloc _, hn, hb.alloc hb.size _, h1, h2⟩
  have e1 : ((k + 1 : Nat) : Int) = (k : Int) + 1 := by omega
  rw [e1]
  exact hB.alloc _
end

theorem sums_err {p : Int} {fc r e o e' o' err s' err' : Nat} (h : Sums p fc r e o e' o') (hp : 0 < p) (q1 : OpRel .sub fc r s') (q2 : OpRel .add err (absB s') err') (hE : Eqv e err) : Eqv e' err' := by
  obtain ⟨⟨s, h1, h2⟩, _⟩ := h.1 hp
  exact h2.eqv q2 hE (h1.eqv q1 (.inl rfl) (.inl rfl)).abs
theorem sums_obs {p : Int} {fc r e o e' o' obs obs' : Nat} (h : Sums p fc r e o e' o') (hp : 0 < p) (q3 : OpRel .add obs r obs') (hE : Eqv o obs) : Eqv o' obs' :=
  (h.1 hp).2.eqv q3 hE (.inl rfl)

set_option maxRecDepth 100000 in
set_option maxHeartbeats 4000000 in
theorem walk_go (ao : Option Addr) (len cap : Nat) (zs : List Int) (s q0 : Int) (w : World) (hrow : IsRow .u8 w ao len cap zs) (hs0 : 0 ≤ s) (hs1 : s ≤ 255) (hq0 : 0 ≤ q0) (hq1 : q0 ≤ 255) (hlen : len ≤ 300) :
    Calls Ybaf.prog 3 #[.slice ao len cap, .int .u8 s, .int .u8 q0] w fun e w' => e = .returned (.bool true) ∧ Below w.heap.size w w' := by
  obtain ⟨fa, da, ha, ra⟩ := float_op Ybaf.prog .add (by simp)
  obtain ⟨fs, ds, hs, rs⟩ := float_op Ybaf.prog .sub (by simp)
  obtain ⟨fm, dm, hm, rm⟩ := float_op Ybaf.prog .mul (by simp)
  have HR : Hid _ := hrow
  clear hrow
  have h3 : (s % 3 == 1) = true ∨ ((s % 3 == 1) = false ∧ (s % 3 == 2) = true) ∨ ((s % 3 == 1) = false ∧ (s % 3 == 2) = false) := by
    cases (s % 3 == 1) <;> cases (s % 3 == 2) <;> simp
  rcases h3 with g1 | ⟨g1, g2⟩ | ⟨g1, g2⟩
  all_goals
    go_enter Ybaf.func3, Ybaf.ntmps3
    go_wp2_with fail
    go_loopw [9, 10, 11, 12] (fun ve vo vp vi wr => LRel (q0 % 8 + 1) len w ve vo vp vi wr) (fun _ _ _ vi _ => len - (intOf vi).toNat)
    case atStart => first | exact lrel_start _ _ _ 1 (by omega) (by omega) | exact lrel_start _ _ _ 2 (by omega) (by omega) | exact lrel_start _ _ _ 0 (by omega) (by omega)
    case round =>
      obtain ⟨rule, k, err, obs, fc, e, o, rv, n, xs, ob, av, fb, ps, hrule, hk, rfl, rfl, rfl, rfl, hB, hown, hnq, hbel, hE1, hE2⟩ := hrel
      by_cases hlt : k < len
      · obtain ⟨b, off, rfl, hb, hcells⟩ := row_at HR.out (by omega)
        obtain ⟨z, hz, hz0, hz1⟩ := hcells k hlt
        have hzr : wr.cell? ⟨b, off + k, none⟩ = some (.int .u8 z) := (hbel.cell (by exact hb)).trans hz
        obtain ⟨r, hr, hr0, hr1⟩ := rate_ok z hz0 hz1
        have hqr : ∀ t w, (binOp .quo t (.float .f64 (floatOfInt .f64 z)) (.float .f64 4643176031446892544)).run Ybaf.prog w = .ok (.float .f64 r) w := fun t w => run_float_arith w .quo t .f64 _ _ r hr
        have HB : Hid _ := hB
        have HO : Hid _ := hown
        have HL : Hid _ := hbel
        have H0 : Hid _ := hr0
        have H1 : Hid _ := hr1
        have HE1 : Hid _ := hE1
        have HE2 : Hid _ := hE2
        clear hcells hz hB hown hbel hr0 hr1 hr hE1 hE2
        by_cases hk0 : 0 < k
        · go_wp2_with (go_at_call 4; refine (abs_any _ _).mono ?_; rintro x w' ⟨rfl, rfl⟩)
          refine (observe_any w.heap.size w.heap.size rule _ rv n k ob av fb fc ps e o xs r _ (by exact HB.out) (by exact HO.out) (Nat.le_refl _) (by omega) (by omega) hrule (by omega) (by omega) hnq H0.out H1.out).mono ?_
          rintro x w2 ⟨g, n', cap', xs', av', fb', fc', ps', e', o', rfl, hsum, hB', hown', hn', hbel'⟩
          simp only [sBlk]
          have HB' : Hid _ := hB'
          have HO' : Hid _ := hown'
          have HL' : Hid _ := hbel'
          have HS' : Hid (Sums k fc r e o e' o') := hsum
          clear hB' hown' hbel' hsum
          go_wp2
          go_roundw
          case rel => exact lrel_next hrule hlt HB'.out HO'.out hn' HL.out _ HL'.out _ (sums_err HS'.out (by omega) (rs.out _ _ _ _) (ra.out _ _ _ _) HE1.out) (sums_obs HS'.out (by omega) (ra.out _ _ _ _) HE2.out)
          case measure => simp [intOf]; omega
        · go_wp2_with (go_at_call 4; refine (abs_any _ _).mono ?_; rintro x w' ⟨rfl, rfl⟩)
          refine (observe_any w.heap.size w.heap.size rule _ rv n k ob av fb fc ps e o xs r _ (by exact HB.out) (by exact HO.out) (Nat.le_refl _) (by omega) (by omega) hrule (by omega) (by omega) hnq H0.out H1.out).mono ?_
          rintro x w2 ⟨g, n', cap', xs', av', fb', fc', ps', e', o', rfl, hsum, hB', hown', hn', hbel'⟩
          simp only [sBlk]
          have HB' : Hid _ := hB'
          have HO' : Hid _ := hown'
          have HL' : Hid _ := hbel'
          have HS' : Hid (Sums k fc r e o e' o') := hsum
          clear hB' hown' hbel' hsum
          go_wp2
          go_roundw
          case rel => exact lrel_next hrule hlt HB'.out HO'.out hn' HL.out 0 HL'.out _ (by rw [(HS'.out.2 (by omega)).1]; exact HE1.out) (by rw [(HS'.out.2 (by omega)).2]; exact HE2.out)
          case measure => simp [intOf]; omega
      · obtain rfl : k = len := by omega
        have c13 := hB.set2.2.2.2.2.2.2.2.1
        have c14 := hB.set2.2.2.2.2.2.2.2.2
        have HL : Hid _ := hbel
        have HE1 : Hid _ := hE1
        have HE2 : Hid _ := hE2
        have hord := hE2.order (c := 0)
        clear hB hown hbel hE1 hE2
        cases hz : ((FloatKind.format .f64).order o 0 == some .eq)
        · rw [hz] at hord
          have hord' := hord.symm
          clear hord
          obtain ⟨fq, dq, hq, rq⟩ := float_op Ybaf.prog .quo (by simp)
          go_wp2_with (go_at_call 6; refine (dev_any w.heap.size e o _ c13 c14 hz).mono ?_; rintro x w' ⟨m, r, nn, rfl, hm1, hm2, rfl⟩)
          refine (same_eqv _ _ _ (hm2.eqv (rq.out _ _ _ _) (hm1.eqv (rm.out _ _ _ _) (.inl rfl) HE1.out) HE2.out)).mono ?_
          rintro x w' ⟨rfl, rfl⟩
          go_wp2
          go_ret
          exact ⟨rfl, below_drewN HL.out _⟩
        · rw [hz] at hord
          have hord' := hord.symm
          clear hord
          go_wp2_with (first | (go_at_call 6; refine (dev_zero w.heap.size e o _ c13 c14 hz).mono ?_; rintro x w' ⟨rfl, rfl⟩) | (go_at_call 7; refine (same_refl _ _).mono ?_; rintro x w' ⟨rfl, rfl⟩))
          go_ret
          exact ⟨rfl, HL.out⟩

theorem walk_any (ao : Option Addr) (len cap : Nat) (zs : List Int) (s q0 : Int) (w : World) (hrow : IsRow .u8 w ao len cap zs) (hs0 : 0 ≤ s) (hs1 : s ≤ 255) (hq0 : 0 ≤ q0) (hq1 : q0 ≤ 255) :
    Calls Ybaf.prog 3 #[.slice ao len cap, .int .u8 s, .int .u8 q0] w fun e w' => e = .returned (.bool true) ∧ Below w.heap.size w w' := by
  by_cases hlen : len ≤ 300
  · exact walk_go ao len cap zs s q0 w hrow hs0 hs1 hq0 hq1 hlen
  · clear hrow
    have hl : (300 : Int) < (len : Int) := by omega
    go_enter Ybaf.func3, Ybaf.ntmps3
    go_wp2
    go_ret
    exact ⟨rfl, Below.refl _ _⟩

end Go.Proofs.YbulkcosFmt
