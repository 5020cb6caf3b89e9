import Derived.Test.YbulkcosFmtObsA
namespace Go.Proofs.YbulkcosFmt
open Go.RowKit
set_option linter.unusedVariables false
set_option linter.unusedSimpArgs false
attribute [local go_sem] run_store_float

set_option maxRecDepth 100000 in
set_option maxHeartbeats 4000000 in
theorem observe_any (base B : Nat) (rule q : Int) (rv : Value) (n : Nat) (p : Int) (ob av fb fc : Nat) (ps : Bool) (e o : Nat) (xs : List Nat) (rate : Nat) (w : World)
    (hB : Blk w B (fBlk rule q rv p ob av fb fc ps e o) 32) (hown : w.ownsRow base 25 1 rv n (xs.map (Value.float .f64))) (hb : base ≤ B) (hp0 : 0 ≤ p) (hp3 : p ≤ 300) (hrule : rule = 0 ∨ rule = 1 ∨ rule = 2) (hq1 : 1 ≤ q) (hq8 : q ≤ 8) (hnq : (n : Int) ≤ q)
    (hr0 : ((FloatKind.format .f64).order rate 0 == some .gt || (FloatKind.format .f64).order rate 0 == some .eq) = true)
    (hr1 : ((FloatKind.format .f64).order rate 4607182418800017408 == some .lt || (FloatKind.format .f64).order rate 4607182418800017408 == some .eq) = true) :
    Calls Ybaf.prog 5 #[.pointer (some ⟨B, 0, none⟩), .float .f64 rate] w (Obs base B rule q p fc e o rate w) := by
  obtain ⟨fa, da, ha, ra⟩ := float_op Ybaf.prog .add (by simp)
  obtain ⟨fs, ds, hs, rs⟩ := float_op Ybaf.prog .sub (by simp)
  have hlt := hB.lt
  obtain ⟨c7, c8, c9, c10, c11, c12⟩ := hB.last
  obtain ⟨c0, c1, c2, c3, c4, c5, c6, c13, c14⟩ := hB.set2
  have f13 := hB.free 13; have f14 := hB.free 14
  have H1 : Hid (Blk w B (fBlk rule q rv p ob av fb fc ps e o) 32) := hB
  have H2 : Hid (w.ownsRow base 25 1 rv n (xs.map (Value.float .f64))) := hown
  clear hB hown
  go_enter Ybaf.func5, Ybaf.ntmps5
  go_upto_if 25 with fail
  go_cut [] (fun wc => R1 base B n rule q rv p ob av fb fc ps e o xs rate w wc)
  case first =>
    by_cases hp : 0 < p
    · go_wp2_with fail
      go_region_with (go_at_call 4; refine (abs_any _ _).mono ?_; rintro x w' ⟨rfl, rfl⟩)
      all_goals go_wp2
      all_goals go_meet
      all_goals exact r1_sums H1.out H2.out hb hp (rs.out _ _ _ _) (ra.out _ _ _ _) (ra.out _ _ _ _)
    · go_wp2_with fail
      go_meet
      case rel => exact r1_start H1.out H2.out hb (by omega)
  case rest =>
    refine ‹∀ (a : Act) (w : World), Code.wp Ybaf.prog _ _ a w → _› _ _ ?_
    exact stage2 base B rule q p ob av fb fc ps e o rate w _ n rv xs hnq _ _ _ _ _ _ _ _ _ _ _ _ _ _ _ _ _ _ _ _ _ _ _ _ _ _ _ _ _ _ _ _ _ _ _ _ _ _ _ _ _ _ _ _ _ _ _ _ _ _ _ _ _ _ _ _ _ _ _ _ _ _ _ _ _ _ _ _ _ _ _ _ _ _ _ _ _ _ _ _ _ _ _ _ _ _ _ _ _ _ _ _ _ _ _ _ _ _ _ _ _ _ _ _ _ _ _ _ _ _ _ _ _ _ _ _ _ _ _ _ _ _ _ _ _ _ _ _ _ _ _ _ _ _ _ _ _ _ _ _ _ _ _ _ _ _ _ _ _ _ _ _ _ _ _ _ _ _ _ _ _ _ _ _ _ _ _ _ _ hb hlt hp0 hp3 hrule hq1 hq8 hcut

end Go.Proofs.YbulkcosFmt
