import Derived.Test.YbulkcosFmtObsD
namespace Go.Proofs.YbulkcosFmt
open Go.RowKit
set_option linter.unusedVariables false
set_option linter.unusedSimpArgs false
attribute [local go_sem] run_store_float

set_option maxRecDepth 100000 in
set_option maxHeartbeats 4000000 in
theorem stage4 (base B : Nat) (rule q : Int) (p : Int) (ob av fb fc : Nat) (ps : Bool) (e o : Nat) (rate : Nat) (w wc : World) (u2 u3 u6 u7 u8 u9 u10 u11 u12 u13 u14 u15 u16 u17 u18 u19 u20 u21 u22 u23 u24 u25 u26 u27 u28 u29 u30 u31 u32 u33 u34 u35 u36 u37 u38 u39 u40 u41 u42 u43 u44 u45 u46 u47 u48 u49 u50 u51 u52 u53 u54 u55 u56 u57 u58 u59 u60 u61 u62 u63 u64 u65 u66 u67 u68 u69 u70 u71 u72 u73 u74 u75 u76 u77 u78 u79 u80 u81 u82 u83 u84 u85 u86 u87 u88 u89 u90 u91 u92 u93 u94 u95 u96 u97 u98 u99 u100 u101 u102 u103 u104 u105 u106 u107 u108 u109 u110 u111 u112 u113 u114 u115 u116 u117 u118 u119 u120 u121 u122 u123 u124 u125 u126 u127 u128 u129 u130 u131 u132 u133 u134 u135 u136 u137 u138 u139 u140 u141 u142 u143 u144 u145 u146 u147 u148 u149 u150 u151 u152 u153 u154 u155 u156 u157 u158 u159 u160 u161 u162 u163 u164 u165 u166 u167 u168 u169 u170 u171 u172 : Value) (hb : base ≤ B) (hlt : B < w.heap.size) (hp0 : 0 ≤ p) (hp3 : p ≤ 300) (hrule : rule = 0 ∨ rule = 1 ∨ rule = 2) (hq1 : 1 ≤ q) (hq8 : q ≤ 8) (hcut : R3 base B rule q p ob av fb fc ps e o rate w wc) :
    Code.wp Ybaf.prog (seqTail 6 (Ybaf.f5.body.getD .skip)) (bodyPost Ybaf.prog Ybaf.f5 (Obs base B rule q p fc e o rate w)) ⟨((.pointer (some ⟨B, 0, none⟩) : Value) :: (.float .f64 rate : Value) :: u2 :: u3 :: (.pointer (some ⟨w.heap.size, 0, none⟩) : Value) :: (.pointer (some ⟨w.heap.size + 1, 0, none⟩) : Value) :: u6 :: u7 :: u8 :: u9 :: u10 :: u11 :: u12 :: u13 :: u14 :: u15 :: u16 :: u17 :: u18 :: u19 :: u20 :: u21 :: u22 :: u23 :: u24 :: u25 :: u26 :: u27 :: u28 :: u29 :: u30 :: u31 :: u32 :: u33 :: u34 :: u35 :: u36 :: u37 :: u38 :: u39 :: u40 :: u41 :: u42 :: u43 :: u44 :: u45 :: u46 :: u47 :: u48 :: u49 :: u50 :: u51 :: u52 :: u53 :: u54 :: u55 :: u56 :: u57 :: u58 :: u59 :: u60 :: u61 :: u62 :: u63 :: u64 :: u65 :: u66 :: u67 :: u68 :: u69 :: u70 :: u71 :: u72 :: u73 :: u74 :: u75 :: u76 :: u77 :: u78 :: u79 :: u80 :: u81 :: u82 :: u83 :: u84 :: u85 :: u86 :: u87 :: u88 :: u89 :: u90 :: u91 :: u92 :: u93 :: u94 :: u95 :: u96 :: u97 :: u98 :: u99 :: u100 :: u101 :: u102 :: u103 :: u104 :: u105 :: u106 :: u107 :: u108 :: u109 :: u110 :: u111 :: u112 :: u113 :: u114 :: u115 :: u116 :: u117 :: u118 :: u119 :: u120 :: u121 :: u122 :: u123 :: u124 :: u125 :: u126 :: u127 :: u128 :: u129 :: u130 :: u131 :: u132 :: u133 :: u134 :: u135 :: u136 :: u137 :: u138 :: u139 :: u140 :: u141 :: u142 :: u143 :: u144 :: u145 :: u146 :: u147 :: u148 :: u149 :: u150 :: u151 :: u152 :: u153 :: u154 :: u155 :: u156 :: u157 :: u158 :: u159 :: u160 :: u161 :: u162 :: u163 :: u164 :: u165 :: u166 :: u167 :: u168 :: u169 :: u170 :: u171 :: u172 :: []).toArray, []⟩ wc := by
  conv => arg 2; whnf
  obtain ⟨e3, o3, g3, n3, cap3, xs3, hsum3, hB3, hR3, hP3, hown3, hn31, hn3q, hbel3, hsz3⟩ := hcut
  obtain ⟨c0, c1, c2, c3, c4, c5, c6, c13, c14⟩ := hB3.set2
  obtain ⟨p0, p1, p2, p3, p4, p5⟩ := hP3.six
  have hltB := hB3.lt
  have hltP := hP3.lt
  have hltR := hR3.lt
  obtain ⟨hgl, hg1⟩ : g3 < wc.heap.size ∧ base ≤ g3 := ⟨(hown3.lt g3 rfl).2, (hown3.lt g3 rfl).1⟩
  have HS : Hid (Sums p fc rate e o e3 o3) := hsum3
  have HB1 : Hid (Blk wc B (fBlk rule q (.slice (some ⟨g3, 0, none⟩) n3 cap3) p ob av fb fc ps e3 o3) 32) := hB3
  have HR : Hid _ := hR3
  have HP : Hid _ := hP3
  have HO : Hid (wc.ownsRow base 25 1 (.slice (some ⟨g3, 0, none⟩) n3 cap3) n3 (xs3.map (Value.float .f64))) := hown3
  have HL : Hid _ := hbel3
  have FR : Hid (FRow (wc.alloc (.cells (sBlk (p + 1) rate 0 0 0 false) 30)) g3 n3) := frow_of_own (hown3.alloc _)
  clear hsum3 hB3 hR3 hP3 hown3 hbel3
  go_upto_block 0 with fail
  have hn8 : n3 ≤ 8 := by omega
  have SP : Hid (P4 base B wc.heap.size w.heap.size rule q g3 n3 cap3 p ob av fb fc ps e3 o3 xs3 w (sBlk (p + 1) rate 0 0 0 false) (wc.alloc (.cells (sBlk (p + 1) rate 0 0 0 false) 30))) := P4.start HB1.out HR.out HP.out HO.out HL.out (by omega) _
  go_cut [6] (fun v wd => ∃ S, v = .pointer (some ⟨S, 0, none⟩) ∧ R4 base B S w.heap.size rule q g3 n3 cap3 p ob av fb fc ps e3 o3 xs3 rate w wd)
  case first =>
    obtain ⟨fq, dq, hqq, rq⟩ := float_op Ybaf.prog .quo (by simp)
    obtain ⟨fmn, dmn, hmn⟩ := float_min Ybaf.prog
    obtain ⟨fmx, dmx, hmx⟩ := float_max Ybaf.prog
    have z0 : ((FloatKind.format .f64).order 0 0 == some .gt) = false := by decide
    rcases hrule with rfl | rfl | rfl
    · go_wp2_with fail
      go_region_with (go_at_call 11; refine (weighted_any g3 n3 cap3 _ _ hn8 (by exact FR.out)).mono ?_; rintro x w' ⟨r, m, rfl, rfl⟩)
      all_goals go_wp2
      all_goals go_meet
      all_goals exact ⟨_, rfl, _, _, _, ((((SP.out.drewN _).set 2 _).set 3 _).drewN _).set 4 _⟩
    · go_wp2_with (go_at_call 13; refine (line_any g3 n3 cap3 _ hn8 (by exact FR.out)).mono ?_; rintro x w' ⟨r, m, rfl, rfl⟩)
      go_meet
      case rel => exact ⟨_, rfl, _, _, _, (SP.out.drewN _).set 4 _⟩
    · go_wp2_with (go_at_call 14; refine (mean_any g3 n3 cap3 _ hn8 (by exact FR.out)).mono ?_; rintro x w' ⟨r, m, rfl, rfl⟩)
      go_meet
      case rel => exact ⟨_, rfl, _, _, _, (SP.out.drewN _).set 4 _⟩
  case rest =>
    obtain ⟨S, rfl, hcut⟩ := hcut
    refine ‹∀ (a : Act) (w : World), Code.wp Ybaf.prog _ _ a w → _› _ _ ?_
    exact stage5 base B rule q p ob av fb fc ps e o rate w _ S g3 n3 cap3 e3 o3 xs3 HS.out hn3q _ _ _ _ _ _ _ _ _ _ _ _ _ _ _ _ _ _ _ _ _ _ _ _ _ _ _ _ _ _ _ _ _ _ _ _ _ _ _ _ _ _ _ _ _ _ _ _ _ _ _ _ _ _ _ _ _ _ _ _ _ _ _ _ _ _ _ _ _ _ _ _ _ _ _ _ _ _ _ _ _ _ _ _ _ _ _ _ _ _ _ _ _ _ _ _ _ _ _ _ _ _ _ _ _ _ _ _ _ _ _ _ _ _ _ _ _ _ _ _ _ _ _ _ _ _ _ _ _ _ _ _ _ _ _ _ _ _ _ _ _ _ _ _ _ _ _ _ _ _ _ _ _ _ _ _ _ _ _ _ _ _ _ _ _ _ _ _ hb hlt hp0 hp3 hrule hq1 hq8 hcut

end Go.Proofs.YbulkcosFmt
