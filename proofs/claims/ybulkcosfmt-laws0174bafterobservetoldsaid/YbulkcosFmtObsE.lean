import Derived.Test.YbulkcosFmtObs0
namespace Go.Proofs.YbulkcosFmt
open Go.RowKit
set_option linter.unusedVariables false
set_option linter.unusedSimpArgs false
attribute [local go_sem] run_store_float

set_option maxRecDepth 100000 in
set_option maxHeartbeats 4000000 in
theorem stage6 (base B : Nat) (rule q : Int) (p : Int) (ob av fb fc : Nat) (ps : Bool) (e o : Nat) (rate : Nat) (w wc : World) (S g3 n3 cap3 e3 o3 : Nat) (xs3 : List Nat) (hS0 : Sums p fc rate e o e3 o3) (hn3q : (n3 : Int) ≤ q) (u2 u3 u7 u8 u9 u10 u11 u12 u13 u14 u15 u16 u17 u18 u19 u20 u21 u22 u23 u24 u25 u26 u27 u28 u29 u30 u31 u32 u33 u34 u35 u36 u37 u38 u39 u40 u41 u42 u43 u44 u45 u46 u47 u48 u49 u50 u51 u52 u53 u54 u55 u56 u57 u58 u59 u60 u61 u62 u63 u64 u65 u66 u67 u68 u69 u70 u71 u72 u73 u74 u75 u76 u77 u78 u79 u80 u81 u82 u83 u84 u85 u86 u87 u88 u89 u90 u91 u92 u93 u94 u95 u96 u97 u98 u99 u100 u101 u102 u103 u104 u105 u106 u107 u108 u109 u110 u111 u112 u113 u114 u115 u116 u117 u118 u119 u120 u121 u122 u123 u124 u125 u126 u127 u128 u129 u130 u131 u132 u133 u134 u135 u136 u137 u138 u139 u140 u141 u142 u143 u144 u145 u146 u147 u148 u149 u150 u151 u152 u153 u154 u155 u156 u157 u158 u159 u160 u161 u162 u163 u164 u165 u166 u167 u168 u169 u170 u171 u172 : Value) (hb : base ≤ B) (hlt : B < w.heap.size) (hp0 : 0 ≤ p) (hp3 : p ≤ 300) (hrule : rule = 0 ∨ rule = 1 ∨ rule = 2) (hq1 : 1 ≤ q) (hq8 : q ≤ 8) (hcut : R5 base B S w.heap.size rule q g3 n3 cap3 p ob av fb fc ps e3 o3 xs3 rate w wc) :
    Code.wp Ybaf.prog (seqTail 9 (Ybaf.f5.body.getD .skip)) (bodyPost Ybaf.prog Ybaf.f5 (Obs base B rule q p fc e o rate w)) ⟨((.pointer (some ⟨B, 0, none⟩) : Value) :: (.float .f64 rate : Value) :: u2 :: u3 :: (.pointer (some ⟨w.heap.size, 0, none⟩) : Value) :: (.pointer (some ⟨w.heap.size + 1, 0, none⟩) : Value) :: (.pointer (some ⟨S, 0, none⟩) : Value) :: u7 :: u8 :: u9 :: u10 :: u11 :: u12 :: u13 :: u14 :: u15 :: u16 :: u17 :: u18 :: u19 :: u20 :: u21 :: u22 :: u23 :: u24 :: u25 :: u26 :: u27 :: u28 :: u29 :: u30 :: u31 :: u32 :: u33 :: u34 :: u35 :: u36 :: u37 :: u38 :: u39 :: u40 :: u41 :: u42 :: u43 :: u44 :: u45 :: u46 :: u47 :: u48 :: u49 :: u50 :: u51 :: u52 :: u53 :: u54 :: u55 :: u56 :: u57 :: u58 :: u59 :: u60 :: u61 :: u62 :: u63 :: u64 :: u65 :: u66 :: u67 :: u68 :: u69 :: u70 :: u71 :: u72 :: u73 :: u74 :: u75 :: u76 :: u77 :: u78 :: u79 :: u80 :: u81 :: u82 :: u83 :: u84 :: u85 :: u86 :: u87 :: u88 :: u89 :: u90 :: u91 :: u92 :: u93 :: u94 :: u95 :: u96 :: u97 :: u98 :: u99 :: u100 :: u101 :: u102 :: u103 :: u104 :: u105 :: u106 :: u107 :: u108 :: u109 :: u110 :: u111 :: u112 :: u113 :: u114 :: u115 :: u116 :: u117 :: u118 :: u119 :: u120 :: u121 :: u122 :: u123 :: u124 :: u125 :: u126 :: u127 :: u128 :: u129 :: u130 :: u131 :: u132 :: u133 :: u134 :: u135 :: u136 :: u137 :: u138 :: u139 :: u140 :: u141 :: u142 :: u143 :: u144 :: u145 :: u146 :: u147 :: u148 :: u149 :: u150 :: u151 :: u152 :: u153 :: u154 :: u155 :: u156 :: u157 :: u158 :: u159 :: u160 :: u161 :: u162 :: u163 :: u164 :: u165 :: u166 :: u167 :: u168 :: u169 :: u170 :: u171 :: u172 :: []).toArray, []⟩ wc := by
  conv => arg 2; whnf
  have HS : Hid (Sums p fc rate e o e3 o3) := hS0
  clear hS0
  obtain ⟨av', fb', fc', ps', hP4⟩ := hcut
  obtain ⟨s0, s1, s2, s3, s4, s5⟩ := hP4.1.six
  obtain ⟨c7, c8, c9, c10, c11, c12⟩ := hP4.2.1.last
  obtain ⟨r0, r1, r2, r3, r4, r5⟩ := hP4.2.2.1.six
  have f7 := hP4.2.1.free 7; have f8 := hP4.2.1.free 8; have f9 := hP4.2.1.free 9; have f10 := hP4.2.1.free 10; have f11 := hP4.2.1.free 11; have f12 := hP4.2.1.free 12
  have q0 := hP4.2.2.1.free 0; have q1 := hP4.2.2.1.free 1; have q2 := hP4.2.2.1.free 2; have q3 := hP4.2.2.1.free 3; have q4 := hP4.2.2.1.free 4; have q5 := hP4.2.2.1.free 5
  have nSB := blk_ne hP4.1 hP4.2.1 (by decide)
  have nBR := blk_ne hP4.2.1 hP4.2.2.1 (by decide)
  have nSR : S ≠ w.heap.size := by have := hP4.2.2.2.2.2.2.1; omega
  have nBS : B ≠ S := Ne.symm nSB
  have nRS : w.heap.size ≠ S := Ne.symm nSR
  have nRB : w.heap.size ≠ B := Ne.symm nBR
  have SP : Hid (P4 base B S w.heap.size rule q g3 n3 cap3 p ob av fb fc ps e3 o3 xs3 w (sBlk (p + 1) rate av' fb' fc' ps') wc) := hP4
  clear hP4
  go_wp2
  exact bodyPost_ret (v := .agg #[.int .i64 (p + 1), .float .f64 rate, .float .f64 av', .float .f64 fb', .float .f64 fc', .bool ps']) (by simp [results, Ybaf.results5, go_sem, r0, r1, r2, r3, r4, r5, nBR, nRB]) rfl (obs_end hb (by omega) HS.out hn3q SP.out)

end Go.Proofs.YbulkcosFmt
