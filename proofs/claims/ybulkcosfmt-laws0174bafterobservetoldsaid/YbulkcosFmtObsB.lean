import Derived.Test.YbulkcosFmtObsC
namespace Go.Proofs.YbulkcosFmt
open Go.RowKit
set_option linter.unusedVariables false
set_option linter.unusedSimpArgs false
attribute [local go_sem] run_store_float

set_option maxRecDepth 100000 in
set_option maxHeartbeats 4000000 in
theorem stage3 (base B : Nat) (rule q : Int) (p : Int) (ob av fb fc : Nat) (ps : Bool) (e o : Nat) (rate : Nat) (w wc : World) (u2 u3 u6 u7 u8 u9 u10 u11 u12 u13 u14 u15 u16 u17 u18 u19 u20 u21 u22 u23 u24 u25 u26 u27 u28 u29 u30 u31 u32 u33 u34 u35 u36 u37 u38 u39 u40 u41 u42 u43 u44 u45 u46 u47 u48 u49 u50 u51 u52 u53 u54 u55 u56 u57 u58 u59 u60 u61 u62 u63 u64 u65 u66 u67 u68 u69 u70 u71 u72 u73 u74 u75 u76 u77 u78 u79 u80 u81 u82 u83 u84 u85 u86 u87 u88 u89 u90 u91 u92 u93 u94 u95 u96 u97 u98 u99 u100 u101 u102 u103 u104 u105 u106 u107 u108 u109 u110 u111 u112 u113 u114 u115 u116 u117 u118 u119 u120 u121 u122 u123 u124 u125 u126 u127 u128 u129 u130 u131 u132 u133 u134 u135 u136 u137 u138 u139 u140 u141 u142 u143 u144 u145 u146 u147 u148 u149 u150 u151 u152 u153 u154 u155 u156 u157 u158 u159 u160 u161 u162 u163 u164 u165 u166 u167 u168 u169 u170 u171 u172 : Value) (hb : base ≤ B) (hlt : B < w.heap.size) (hp0 : 0 ≤ p) (hp3 : p ≤ 300) (hrule : rule = 0 ∨ rule = 1 ∨ rule = 2) (hq1 : 1 ≤ q) (hq8 : q ≤ 8) (hcut : R2 base B rule q p ob av fb fc ps e o rate w wc) :
    Code.wp Ybaf.prog (seqTail 5 (Ybaf.f5.body.getD .skip)) (bodyPost Ybaf.prog Ybaf.f5 (Obs base B rule q p fc e o rate w)) ⟨((.pointer (some ⟨B, 0, none⟩) : Value) :: (.float .f64 rate : Value) :: u2 :: u3 :: (.pointer (some ⟨w.heap.size, 0, none⟩) : Value) :: (.pointer (some ⟨w.heap.size + 1, 0, none⟩) : Value) :: u6 :: u7 :: u8 :: u9 :: u10 :: u11 :: u12 :: u13 :: u14 :: u15 :: u16 :: u17 :: u18 :: u19 :: u20 :: u21 :: u22 :: u23 :: u24 :: u25 :: u26 :: u27 :: u28 :: u29 :: u30 :: u31 :: u32 :: u33 :: u34 :: u35 :: u36 :: u37 :: u38 :: u39 :: u40 :: u41 :: u42 :: u43 :: u44 :: u45 :: u46 :: u47 :: u48 :: u49 :: u50 :: u51 :: u52 :: u53 :: u54 :: u55 :: u56 :: u57 :: u58 :: u59 :: u60 :: u61 :: u62 :: u63 :: u64 :: u65 :: u66 :: u67 :: u68 :: u69 :: u70 :: u71 :: u72 :: u73 :: u74 :: u75 :: u76 :: u77 :: u78 :: u79 :: u80 :: u81 :: u82 :: u83 :: u84 :: u85 :: u86 :: u87 :: u88 :: u89 :: u90 :: u91 :: u92 :: u93 :: u94 :: u95 :: u96 :: u97 :: u98 :: u99 :: u100 :: u101 :: u102 :: u103 :: u104 :: u105 :: u106 :: u107 :: u108 :: u109 :: u110 :: u111 :: u112 :: u113 :: u114 :: u115 :: u116 :: u117 :: u118 :: u119 :: u120 :: u121 :: u122 :: u123 :: u124 :: u125 :: u126 :: u127 :: u128 :: u129 :: u130 :: u131 :: u132 :: u133 :: u134 :: u135 :: u136 :: u137 :: u138 :: u139 :: u140 :: u141 :: u142 :: u143 :: u144 :: u145 :: u146 :: u147 :: u148 :: u149 :: u150 :: u151 :: u152 :: u153 :: u154 :: u155 :: u156 :: u157 :: u158 :: u159 :: u160 :: u161 :: u162 :: u163 :: u164 :: u165 :: u166 :: u167 :: u168 :: u169 :: u170 :: u171 :: u172 :: []).toArray, []⟩ wc := by
  conv => arg 2; whnf
  obtain ⟨e2, o2, ao2, n2, cap2, xs2, hsum2, hB2, hR2, hP2, hown2, hn2, hbel2, hsz2⟩ := hcut
  obtain ⟨i0, hi0, hz0, hz1, hz2⟩ := info_parts Ybaf.info25
  obtain ⟨c0, c1, c2, c3, c4, c5, c6, c13, c14⟩ := hB2.set2
  have f6 := hB2.free 6
  have hlt2 := hB2.lt
  have hbs : base ≤ wc.heap.size := by omega
  have HS : Hid (Sums p fc rate e o e2 o2) := hsum2
  have HB1 : Hid (Blk wc B (fBlk rule q (.slice ao2 n2 cap2) p ob av fb fc ps e2 o2) 32) := hB2
  have HR : Hid _ := hR2
  have HP : Hid _ := hP2
  have HO : Hid (wc.ownsRow base 25 1 (.slice ao2 n2 cap2) n2 (xs2.map (Value.float .f64))) := hown2
  have HL : Hid _ := hbel2
  have HZ : Hid (wc.heap.size = w.heap.size + 2) := hsz2
  clear hsum2 hB2 hR2 hP2 hown2 hbel2 hsz2
  go_upto_region 9 with fail
  go_cut [] (fun wd => R3 base B rule q p ob av fb fc ps e o rate w wd)
  case first =>
    go_wp2_with (at_builtin; (refine wpList_append_own _ rfl (.tmp 75) (.tmp 77) 28 rfl base 25 i0 (.float .f64 0) 1 8 Ybaf.underlying28 hi0 hz0 hz1 hz2 rfl (by decide) _ n2 (xs2.map (Value.float .f64)) rfl (HO.out.alloc _) ⟨wc.heap.size, 0, none⟩ 1 1 [.float .f64 rate] rfl rfl ?c1 ?c2 ?c3 ?c4 ?c5 ?_))
    case c1 => exact cell_one_new _ _ _
    case c2 => intro u hu; simp at hu; subst hu; rfl
    case c3 => unfold maxLen; omega
    case c4 => omega
    case c5 => simp; omega
    intro v' w1 hown' hgrow hnil
    obtain ⟨g', cap', rfl⟩ : ∃ g' cap', v' = .slice (some ⟨g', 0, none⟩) (n2 + 1) cap' := by
      obtain ⟨ao', cap', h1, h2⟩ := own_shape hown'
      rcases h2 with ⟨_, h, _⟩ | ⟨g', cur, h3, _⟩
      · omega
      · subst h3; exact ⟨g', cap', h1⟩
    have kB := (HB1.out.alloc (.cells #[.float .f64 rate] 25)).kept hgrow (Ne.symm (own_ne HO.out HB1.out (by decide)))
    have k6 := kB.set2.2.2.2.2.2.2.1
    have g6 := kB.free 6
    have HW : Hid (w1.ownsRow base 25 1 (.slice (some ⟨g', 0, none⟩) (n2 + 1) cap') (n2 + 1) (xs2.map (Value.float .f64) ++ [.float .f64 rate])) := hown'
    have HG : Hid _ := hgrow
    clear hown' hgrow hnil kB
    go_wp2
    go_meet
    case rel => exact r3_append HS.out HB1.out HR.out HP.out HO.out hn2 hb HL.out HZ.out _ HG.out hbs HW.out
  case rest =>
    refine ‹∀ (a : Act) (w : World), Code.wp Ybaf.prog _ _ a w → _› _ _ ?_
    exact stage4 base B rule q p ob av fb fc ps e o rate w _ _ _ _ _ _ _ _ _ _ _ _ _ _ _ _ _ _ _ _ _ _ _ _ _ _ _ _ _ _ _ _ _ _ _ _ _ _ _ _ _ _ _ _ _ _ _ _ _ _ _ _ _ _ _ _ _ _ _ _ _ _ _ _ _ _ _ _ _ _ _ _ _ _ _ _ _ _ _ _ _ _ _ _ _ _ _ _ _ _ _ _ _ _ _ _ _ _ _ _ _ _ _ _ _ _ _ _ _ _ _ _ _ _ _ _ _ _ _ _ _ _ _ _ _ _ _ _ _ _ _ _ _ _ _ _ _ _ _ _ _ _ _ _ _ _ _ _ _ _ _ _ _ _ _ _ _ _ _ _ _ _ _ _ _ _ _ _ _ _ hb hlt hp0 hp3 hrule hq1 hq8 hcut

end Go.Proofs.YbulkcosFmt
