import Derived.Test.YbulkcqiDoorStD
namespace Go.Proofs.YbulkcqiDoor
open Go.RowKit
set_option linter.unusedVariables false
set_option linter.unusedSimpArgs false

namespace Wlk
/-- The law's memory before the matcher stands. -/
structure Pre (W w : World) (n ab ib wb vb : Nat) (bk ck : Nat → Nat) (V : Nat → Nat → Bool) (S : Nat → Bool) : Prop where
  wd : Row w wb 25 (fun i => .int .u64 (wordOf V i)) ((n / 64 + 1) * 3)
  vis : VisAt w W.heap.size vb n bk ck V
  a0 : ∃ arr, Blk w ab arr 26 ∧ arr[4]? = some (.int .u64 (setW S 0)) ∧ arr[5]? = some (.int .u64 (setW S 1))
  i0 : ∃ arr, Blk w ib arr 33 ∧ arr[2]? = some (.int .u32 1)
  below : Below W.heap.size W w
  wb : W.heap.size ≤ wb
  ins : ∀ k p, n < p → V k p = false
theorem Pre.kp {H : List TypeId} {W w w' : World} (k : Kp H w w') {n ab ib wb vb : Nat} {bk ck : Nat → Nat} {V : Nat → Nat → Bool} {S : Nat → Bool} (h : Pre W w n ab ib wb vb bk ck V S) (hb : Below W.heap.size W w') (h1 : 25 ∉ H) (h2 : 36 ∉ H) (h3 : 4 ∉ H) (h4 : 26 ∉ H) (h5 : 33 ∉ H) : Pre W w' n ab ib wb vb bk ck V S := by
  obtain ⟨wd, vis, ⟨arr, a1, a2⟩, ⟨brr, b1, b2⟩, bel, wb', ins⟩ := h
  exact ⟨wd.kp k h1, vis.kp k h2 h3, ⟨arr, k.block _ _ _ a1 h4, a2⟩, ⟨brr, k.block _ _ _ b1 h5, b2⟩, hb, wb', ins⟩

theorem row_size {w : World} {b : Nat} {t : TypeId} {f : Nat → Value} {N : Nat} {arr : Array Value} (hb : Blk w b arr t) (h : Row w b t f N) : N ≤ arr.size := by
  obtain ⟨arr', h1, h2⟩ := h
  have e : arr' = arr := by unfold Blk at *; rw [hb] at h1; simp at h1; exact h1.symm
  subst e
  rcases Nat.eq_zero_or_pos N with h0 | h0
  · omega
  · have := (Array.getElem?_eq_some_iff.1 (h2 (N - 1) (by omega))).1
    omega

def bytesOf (D : Nat → Nat) (n : Nat) : List Value := (List.range n).map (fun i => .int .u8 (D i))
theorem bytesOf_at (D : Nat → Nat) (n i : Nat) (hi : i < n) : (bytesOf D n)[i]? = some (.int .u8 (D i)) := by simp [bytesOf, hi]
theorem row_splice {w : World} {g : Nat} {cur : List Value} {D : Nat → Nat} {n : Nat} (h : w.heap[g]? = some (.cells (splice cur 0 (bytesOf D n)).toArray 5 (0, 0))) : Row w g 5 (fun i => .int .u8 (D i)) n := by
  refine ⟨_, h, fun i hi => ?_⟩
  have hl : (bytesOf D n).length = n := by simp [bytesOf]
  simp only [splice, List.take_zero, List.nil_append, List.getElem?_toArray]
  rw [List.getElem?_append_left (by omega)]
  exact bytesOf_at D n i hi

/-- The matcher stands. -/
def CutC (W : World) (vb : Nat) (bk ck : Nat → Nat) (far0 : Int) (V : Nat → Nat → Bool) (s : ByteArray) (D : Nat → Nat) (n e : Nat) (v : Value) (wx : World) : Prop := ∃ M : MC, v = .pointer (some ⟨M.mb, 0, none⟩) ∧ Core W wx M vb bk ck far0 V (sOf s) D ∧ M.n = n ∧ M.e = e

theorem core_of {W wc w2 : World} {n ab ib wb vb ic ac wcap e : Nat} {bk ck : Nat → Nat} {V : Nat → Nat → Bool} {s : ByteArray} {D : Nat → Nat} {far0 : Int} (hp : Pre W wc n ab ib wb vb bk ck V (sOf s)) (hb : Below wc.heap.size wc w2) (hr : Row w2 wc.heap.size 5 (fun i => .int .u8 (D i)) n) :
    Core W (((w2.alloc (.cells #[.slice (some ⟨ib, 0, none⟩) 3 ic, .int .i64 0, .int .i64 0] 41)).alloc (.cells #[.pointer (some ⟨w2.heap.size, 0, none⟩), .pointer none, .slice (some ⟨ab, 0, none⟩) 3 ac, .slice none 0 0, .bool false] 45)).alloc (.cells #[.pointer (some ⟨w2.heap.size + 1, 0, none⟩), .int .i64 0, .slice (some ⟨wc.heap.size, 0, none⟩) n n, .int .i64 0, .int .i64 e, .int .i64 far0, .slice (some ⟨wb, 0, none⟩) ((n / 64 + 1) * 3) wcap, .slice none 0 0, .slice none 0 0] 49))
      ⟨w2.heap.size + 1 + 1, w2.heap.size + 1, w2.heap.size, ib, ab, wb, ic, ac, wcap, n, .slice (some ⟨wc.heap.size, 0, none⟩) n n, e⟩ vb bk ck far0 V (sOf s) D := by
  obtain ⟨A, hA⟩ : ∃ A : Array Value, A = #[.slice (some ⟨ib, 0, none⟩) 3 ic, .int .i64 0, .int .i64 0] := ⟨_, rfl⟩
  obtain ⟨B, hB⟩ : ∃ B : Array Value, B = #[.pointer (some ⟨w2.heap.size, 0, none⟩), .pointer none, .slice (some ⟨ab, 0, none⟩) 3 ac, .slice none 0 0, .bool false] := ⟨_, rfl⟩
  obtain ⟨C, hC⟩ : ∃ C : Array Value, C = #[.pointer (some ⟨w2.heap.size + 1, 0, none⟩), .int .i64 0, .slice (some ⟨wc.heap.size, 0, none⟩) n n, .int .i64 0, .int .i64 e, .int .i64 far0, .slice (some ⟨wb, 0, none⟩) ((n / 64 + 1) * 3) wcap, .slice none 0 0, .slice none 0 0] := ⟨_, rfl⟩
  rw [← hA, ← hB, ← hC]
  have b0 : Blk (((w2.alloc (.cells A 41)).alloc (.cells B 45)).alloc (.cells C 49)) w2.heap.size A 41 := ((Blk.new w2 A 41).alloc _).alloc _
  have b1 : Blk (((w2.alloc (.cells A 41)).alloc (.cells B 45)).alloc (.cells C 49)) (w2.heap.size + 1) B 45 := by
    have h := (Blk.new (w2.alloc (.cells A 41)) B 45).alloc (.cells C 49)
    simpa using h
  have b2 : Blk (((w2.alloc (.cells A 41)).alloc (.cells B 45)).alloc (.cells C 49)) (w2.heap.size + 1 + 1) C 49 := by
    have h := Blk.new ((w2.alloc (.cells A 41)).alloc (.cells B 45)) C 49
    simpa using h
  have kp : Kp [] wc (((w2.alloc (.cells A 41)).alloc (.cells B 45)).alloc (.cells C 49)) := (((Kp.of_below hb).alloc _).alloc _).alloc _
  have hs1 := hb.size
  have hs0 := hp.below.size
  have bel : Below W.heap.size W (((w2.alloc (.cells A 41)).alloc (.cells B 45)).alloc (.cells C 49)) :=
    (((hp.below.trans (hb.mono hs0)).alloc (by omega) _).alloc (by simp; omega) _).alloc (by simp; omega) _
  subst hA hB hC
  refine ⟨⟨⟨_, _, b2⟩, ⟨.pointer none, #[.slice none 0 0, .bool false], b1⟩, ⟨#[.int .i64 0, .int .i64 0], b0⟩, hp.wd.kp kp (by simp)⟩, hp.vis.kp kp (by simp) (by simp), ⟨?_, ?_⟩, ⟨_, _, rfl, fun _ => ⟨_, rfl, ?_⟩⟩, bel, ?_, hp.wb, hp.ins⟩
  · obtain ⟨arr, a1, a2⟩ := hp.a0
    exact ⟨arr, kp.block _ _ _ a1 (by simp), a2⟩
  · obtain ⟨arr, a1, a2⟩ := hp.i0
    exact ⟨arr, kp.block _ _ _ a1 (by simp), a2⟩
  · exact ((hr.alloc _).alloc _).alloc _
  · show W.heap.size ≤ w2.heap.size + 1 + 1
    omega

set_option maxRecDepth 100000 in
set_option maxHeartbeats 4000000 in
theorem stC2 (W wc : World) (V : Nat → Nat → Bool) (s : ByteArray) (D : Nat → Nat) (aD aK : Option Addr) (n cD nK : Nat) (Kf : Nat → Nat) (pos e ab ac ib ic wb wcap vb vc : Nat) (bk ck : Nat → Nat) (far0 : Int) (u2 u3 u4 u5 u6 u7 u8 u9 u10 u14 u15 u16 u21 u23 u24 u25 u26 u27 u28 u29 u30 u31 u32 u33 u34 u35 u36 u37 u38 u39 u40 u41 u42 u43 u44 u45 u46 u47 u48 u49 u50 u51 u52 u53 u54 u55 u56 u57 u58 u59 u60 u61 u62 u63 u64 u65 u66 u67 u68 u69 u70 u71 u72 u73 u74 u75 u76 u77 u78 u79 u80 u81 u82 u83 u84 u85 u86 u87 u88 u89 u90 u91 u92 u93 u94 u95 u96 u97 u98 u99 u100 u101 u102 u103 u104 u105 u106 u107 u108 u109 u110 u111 u112 u113 u114 u115 u116 u117 u118 u119 u120 u121 u122 u123 u124 u125 u126 u127 u128 u129 u130 u131 u132 u133 u134 u135 u136 u137 u138 u139 u140 u141 u142 u143 u144 u145 u146 u147 u148 u149 u150 u151 u152 u153 u154 u155 u156 u157 u158 u159 u160 u161 u162 u163 u164 u165 u166 u167 u168 u169 u170 u171 u172 u173 u174 u175 u176 u177 u178 u179 u180 u181 u182 u183 u184 u185 u186 u187 u188 u189 u190 u191 u192 u193 u194 u195 u196 u197 u198 u199 u200 u201 u202 u203 u204 u205 u206 u207 u208 u209 u210 u211 u212 u213 u214 u215 u216 u217 u218 u219 u220 u221 u222 u223 u224 u225 u226 u227 u228 u229 u230 u231 u232 u233 u234 u235 u236 u237 u238 u239 u240 u241 u242 u243 u244 u245 u246 u247 u248 u249 u250 u251 u252 u253 u254 u255 u256 u257 u258 u259 u260 u261 u262 u263 u264 u265 u266 u267 u268 u269 u270 u271 u272 u273 u274 u275 u276 u277 u278 u279 u280 u281 u282 u283 u284 u285 u286 u287 u288 u289 u290 u291 u292 u293 u294 u295 u296 u297 u298 u299 u300 u301 u302 u303 u304 u305 u306 u307 u308 u309 u310 u311 u312 u313 u314 u315 u316 u317 u318 u319 u320 u321 u322 u323 u324 u325 u326 u327 u328 u329 u330 u331 u332 u333 u334 u335 u336 u337 u338 u339 u340 u341 u342 u343 u344 u345 u346 u347 u348 u349 u350 u351 u352 u353 u354 u355 u356 u357 u358 u359 u360 u361 : Value)
    (hp : Pre W wc n ab ib wb vb bk ck V (sOf s)) (hi : Inp W aD n D aK nK Kf) (hs : s.size ≤ 1024) (hpos : pos ≤ e) (he : e ≤ n) (hn : n ≤ 1024) :
    Code.wp Ybad.prog (seqTail 16 (Ybad.f3.body.getD .skip)) (bodyPost Ybad.prog Ybad.f3 (LPost W)) ⟨((.slice aD n cD : Value) :: (.string s : Value) :: u2 :: u3 :: u4 :: u5 :: u6 :: u7 :: u8 :: u9 :: u10 :: (.int .i64 n : Value) :: (.int .i64 pos : Value) :: (.int .i64 e : Value) :: u14 :: u15 :: u16 :: (.slice (some ⟨ab, 0, none⟩) 3 ac : Value) :: (.slice (some ⟨ib, 0, none⟩) 3 ic : Value) :: (.slice (some ⟨wb, 0, none⟩) ((n / 64 + 1) * 3) wcap : Value) :: (.slice (some ⟨vb, 0, none⟩) 3 vc : Value) :: u21 :: (.int .i64 far0 : Value) :: u23 :: u24 :: u25 :: u26 :: u27 :: u28 :: u29 :: u30 :: u31 :: u32 :: u33 :: u34 :: u35 :: u36 :: u37 :: u38 :: u39 :: u40 :: u41 :: u42 :: u43 :: u44 :: u45 :: u46 :: u47 :: u48 :: u49 :: u50 :: u51 :: u52 :: u53 :: u54 :: u55 :: u56 :: u57 :: u58 :: u59 :: u60 :: u61 :: u62 :: u63 :: u64 :: u65 :: u66 :: u67 :: u68 :: u69 :: u70 :: u71 :: u72 :: u73 :: u74 :: u75 :: u76 :: u77 :: u78 :: u79 :: u80 :: u81 :: u82 :: u83 :: u84 :: u85 :: u86 :: u87 :: u88 :: u89 :: u90 :: u91 :: u92 :: u93 :: u94 :: u95 :: u96 :: u97 :: u98 :: u99 :: u100 :: u101 :: u102 :: u103 :: u104 :: u105 :: u106 :: u107 :: u108 :: u109 :: u110 :: u111 :: u112 :: u113 :: u114 :: u115 :: u116 :: u117 :: u118 :: u119 :: u120 :: u121 :: u122 :: u123 :: u124 :: u125 :: u126 :: u127 :: u128 :: u129 :: u130 :: u131 :: u132 :: u133 :: u134 :: u135 :: u136 :: u137 :: u138 :: u139 :: u140 :: u141 :: u142 :: u143 :: u144 :: u145 :: u146 :: u147 :: u148 :: u149 :: u150 :: u151 :: u152 :: u153 :: u154 :: u155 :: u156 :: u157 :: u158 :: u159 :: u160 :: u161 :: u162 :: u163 :: u164 :: u165 :: u166 :: u167 :: u168 :: u169 :: u170 :: u171 :: u172 :: u173 :: u174 :: u175 :: u176 :: u177 :: u178 :: u179 :: u180 :: u181 :: u182 :: u183 :: u184 :: u185 :: u186 :: u187 :: u188 :: u189 :: u190 :: u191 :: u192 :: u193 :: u194 :: u195 :: u196 :: u197 :: u198 :: u199 :: u200 :: u201 :: u202 :: u203 :: u204 :: u205 :: u206 :: u207 :: u208 :: u209 :: u210 :: u211 :: u212 :: u213 :: u214 :: u215 :: u216 :: u217 :: u218 :: u219 :: u220 :: u221 :: u222 :: u223 :: u224 :: u225 :: u226 :: u227 :: u228 :: u229 :: u230 :: u231 :: u232 :: u233 :: u234 :: u235 :: u236 :: u237 :: u238 :: u239 :: u240 :: u241 :: u242 :: u243 :: u244 :: u245 :: u246 :: u247 :: u248 :: u249 :: u250 :: u251 :: u252 :: u253 :: u254 :: u255 :: u256 :: u257 :: u258 :: u259 :: u260 :: u261 :: u262 :: u263 :: u264 :: u265 :: u266 :: u267 :: u268 :: u269 :: u270 :: u271 :: u272 :: u273 :: u274 :: u275 :: u276 :: u277 :: u278 :: u279 :: u280 :: u281 :: u282 :: u283 :: u284 :: u285 :: u286 :: u287 :: u288 :: u289 :: u290 :: u291 :: u292 :: u293 :: u294 :: u295 :: u296 :: u297 :: u298 :: u299 :: u300 :: u301 :: u302 :: u303 :: u304 :: u305 :: u306 :: u307 :: u308 :: u309 :: u310 :: u311 :: u312 :: u313 :: u314 :: u315 :: u316 :: u317 :: u318 :: u319 :: u320 :: u321 :: u322 :: u323 :: u324 :: u325 :: u326 :: u327 :: u328 :: u329 :: u330 :: u331 :: u332 :: u333 :: u334 :: u335 :: u336 :: u337 :: u338 :: u339 :: u340 :: u341 :: u342 :: u343 :: u344 :: u345 :: u346 :: u347 :: u348 :: u349 :: u350 :: u351 :: u352 :: u353 :: u354 :: u355 :: u356 :: u357 :: u358 :: u359 :: u360 :: u361 :: []).toArray, []⟩ wc := by
  conv => arg 2; whnf
  obtain ⟨i0, hi0, hz0, hz1, hz2⟩ := info_parts info5
  have HP : Hid (Pre W wc n ab ib wb vb bk ck V (sOf s)) := hp
  have HI : Hid (Inp W aD n D aK nK Kf) := hi
  have hbs : W.heap.size ≤ wc.heap.size := hp.below.size
  have hi0' : (Ybad.prog.info? 5).map (·.size) = some 1 := by rw [hi0]; simp [hz1]
  have hbl : (bytesOf D n).length = n := by simp [bytesOf]
  have HBL : Hid ((bytesOf D n).length = n) := hbl
  clear hp hi hbl
  go_upto_region 35 with (at_make; (refine wpList_make_full _ rfl (.tmp 157) (.tmp 157) 22 rfl W.heap.size 5 i0 (.int .u8 0) 1 Ybad.underlying22 hi0 hz0 hz1 .i64 .i64 _ _ n rfl rfl rfl rfl (by rw [hz2]; omega) (by unfold maxLen; omega) hbs ?_); intro w1 hown hgrow; (have HO : Hid (Row w1 wc.heap.size 5 (fun i => .int .u8 0) n) := row_of_own hown _ (fun i hi => by rw [made1 _ _ _ hi rfl])); (have HB1 : Hid (Below wc.heap.size wc w1) := Below.grown0 (Below.refl _ _) hgrow (Nat.le_refl _)); clear hown hgrow)
  obtain ⟨cur, hcur, hcf⟩ := HO.out
  have HCS : Hid (n ≤ cur.size) := row_size hcur HO.out
  have HCB : Hid (Blk w1 wc.heap.size cur 5) := hcur
  have HBW : Hid (Below W.heap.size W w1) := HP.out.below.trans (HB1.out.mono hbs)
  clear hcur hcf HO
  have HPS : Hid (0 < (bytesOf D n).length → (some ⟨wc.heap.size, 0, none⟩ : Option Addr) = some ⟨wc.heap.size, 0, none⟩ ∧ ∃ ad, aD = some ad ∧ ∀ (j : Nat) (v : Value), (bytesOf D n)[j]? = some v → w1.cell? (ad.add j) = some v) := fun h => by
    rw [HBL.out] at h
    obtain ⟨b, off, hao, _⟩ := HI.out.data 0 h
    refine ⟨rfl, _, hao, fun j v hj => ?_⟩
    have hj2 : j < n := by have := (List.getElem?_eq_some_iff.1 hj).1; rw [HBL.out] at this; exact this
    rw [bytesOf_at D n j hj2] at hj
    obtain ⟨b', off', hbo, hb', hc', _⟩ := HI.out.data j hj2
    rw [hao] at hbo
    simp only [Option.some.injEq, Addr.mk.injEq] at hbo
    obtain ⟨rfl, rfl, _⟩ := hbo
    rw [Addr.add_lit, HBW.out.cell (p := ⟨b, off + j, none⟩) hb', hc']
    exact hj
  have HFT : Hid (0 + (bytesOf D n).length ≤ cur.toList.length) := by show _ ≤ _; rw [HBL.out]; simpa using HCS.out
  have HON : Hid (∀ v ∈ bytesOf D n, v.oneCell' = true) := by intro v hv; simp [bytesOf] at hv; obtain ⟨a, _, rfl⟩ := hv; rfl
  have HGG : Hid (w1.heap[wc.heap.size]? = some (.cells cur.toList.toArray 5 (0, 0))) := by show _ = _; rw [Array.toArray_toList]; exact HCB.out
  go_upto_region 36 with (refine wpList_copy_splice rfl (.tmp 159) (.tmp 160) 22 22 rfl 5 Ybad.underlying22 hi0' (some ⟨wc.heap.size, 0, none⟩) aD n n n cD rfl rfl wc.heap.size 0 cur.toList 5 HGG.out (bytesOf D n) (by rw [HBL.out]; simp) HPS.out HFT.out HON.out wc.heap.size wc HB1.out (Nat.le_refl _) ?_; intro w2 hg2 hb2; (have HR2 : Hid (Row w2 wc.heap.size 5 (fun i => .int .u8 (D i)) n) := row_splice hg2.out); (have HB2 : Hid (Below wc.heap.size wc w2) := hb2); clear hg2 hb2)
  have HCO : Hid _ := core_of HP.out HB2.out HR2.out (s := s) (n := n) (ic := ic) (ac := ac) (wcap := wcap) (e := e) (far0 := far0)
  go_simp
  go_cut [28] (fun v wx => CutC W vb bk ck far0 V s D n e v wx)
  case first =>
    go_wp2
    go_meet
    case rel => exact ⟨_, rfl, HCO.out, rfl, rfl⟩
  case rest =>
    obtain ⟨M, rfl, hco, rfl, rfl⟩ := hcut
    refine ‹∀ (a : Act) (w : World), Code.wp Ybad.prog _ _ a w → _› _ _ ?_
    exact stD W _ M V s D aD aK cD nK Kf pos vb vc bk ck far0 _ _ _ _ _ _ _ _ _ _ _ _ _ _ _ _ _ _ _ _ _ _ _ _ _ _ _ _ _ _ _ _ _ _ _ _ _ _ _ _ _ _ _ _ _ _ _ _ _ _ _ _ _ _ _ _ _ _ _ _ _ _ _ _ _ _ _ _ _ _ _ _ _ _ _ _ _ _ _ _ _ _ _ _ _ _ _ _ _ _ _ _ _ _ _ _ _ _ _ _ _ _ _ _ _ _ _ _ _ _ _ _ _ _ _ _ _ _ _ _ _ _ _ _ _ _ _ _ _ _ _ _ _ _ _ _ _ _ _ _ _ _ _ _ _ _ _ _ _ _ _ _ _ _ _ _ _ _ _ _ _ _ _ _ _ _ _ _ _ _ _ _ _ _ _ _ _ _ _ _ _ _ _ _ _ _ _ _ _ _ _ _ _ _ _ _ _ _ _ _ _ _ _ _ _ _ _ _ _ _ _ _ _ _ _ _ _ _ _ _ _ _ _ _ _ _ _ _ _ _ _ _ _ _ _ _ _ _ _ _ _ _ _ _ _ _ _ _ _ _ _ _ _ _ _ _ _ _ _ _ _ _ _ _ _ _ _ _ _ _ _ _ _ _ _ _ _ _ _ _ _ _ _ _ _ _ _ _ _ _ _ _ _ _ _ _ _ _ _ _ _ _ _ _ _ _ _ _ _ _ _ _ _ _ _ _ _ _ _ _ _ _ _ _ _ _ _ _ _ _ _ _ _ _ _ _ _ _ _ _ _ _ _ _ _ _ _ _ _ _ _ _ _ _ hco HI.out hs hpos he hn
end Wlk
end Go.Proofs.YbulkcqiDoor
