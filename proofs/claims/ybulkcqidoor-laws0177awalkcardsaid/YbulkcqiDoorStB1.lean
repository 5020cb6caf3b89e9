import Derived.Test.YbulkcqiDoorStB2
namespace Go.Proofs.YbulkcqiDoor
open Go.RowKit
set_option linter.unusedVariables false
set_option linter.unusedSimpArgs false

namespace Wlk
theorem own_full {w : World} {base : Nat} {e : TypeId} {g n size : Nat} {xs : List Value} (h : w.ownsRow base e size (.slice (some ⟨g, 0, none⟩) n n) n xs) : Blk w g xs.toArray e := by
  rcases h with ⟨h0, ⟨h1, _⟩ | ⟨g', cap', cur, h1, h2, h3, h4, h5, h6, h7⟩⟩
  · simp at h1
  · simp only [Value.slice.injEq, Option.some.injEq, Addr.mk.injEq] at h1
    obtain ⟨⟨rfl, _⟩, _, rfl⟩ := h1
    have e : cur = xs.toArray := by
      rw [← h7, List.take_of_length_le (by simp [h6])]
    rw [← e]
    exact h3
theorem made26 : (madeCells (Value.agg #[.int .u64 0, .int .u64 0]).cells (3 * 2)).toList = [.int .u64 0, .int .u64 0, .int .u64 0, .int .u64 0, .int .u64 0, .int .u64 0] := by kernel_rfl
theorem made33 : (madeCells (Value.agg #[.int .u8 0, .int .u32 0, .int .u32 0, .slice none 0 0]).cells (3 * 4)).toList = [.int .u8 0, .int .u32 0, .int .u32 0, .slice none 0 0, .int .u8 0, .int .u32 0, .int .u32 0, .slice none 0 0, .int .u8 0, .int .u32 0, .int .u32 0, .slice none 0 0] := by kernel_rfl

theorem preB_of {W w4 w5 : World} {n ab ib : Nat} {S : Nat → Bool} (hown : w5.ownsRow w4.heap.size 25 1 (.slice (some ⟨w4.heap.size, 0, none⟩) ((n / 64 + 1) * 3) ((n / 64 + 1) * 3)) ((n / 64 + 1) * 3) (madeCells (Value.int .u64 0).cells ((n / 64 + 1) * 3 * 1)).toList) (hg : w4.grownBy w5 none)
    (ha : ∃ arr, Blk w4 ab arr 26 ∧ arr[4]? = some (.int .u64 (setW S 0)) ∧ arr[5]? = some (.int .u64 (setW S 1))) (hi : ∃ arr, Blk w4 ib arr 33 ∧ arr[2]? = some (.int .u32 1)) (hb : Below W.heap.size W w4) : PreB W w5 n ab ib w4.heap.size S := by
  have kp : Kp [] w4 w5 := Kp.grown0 (Kp.refl _ _) hg
  refine ⟨row_of_own hown _ (fun i hi => by rw [made1 _ _ _ hi rfl, wordOf_zero]; rfl), ?_, ?_, Below.grown0 hb hg hb.size, hb.size⟩
  · obtain ⟨arr, a1, a2⟩ := ha
    exact ⟨arr, kp.block _ _ _ a1 (by simp), a2⟩
  · obtain ⟨arr, a1, a2⟩ := hi
    exact ⟨arr, kp.block _ _ _ a1 (by simp), a2⟩

set_option maxRecDepth 100000 in
set_option maxHeartbeats 4000000 in
theorem stB1 (W wc : World) (s : ByteArray) (D : Nat → Nat) (aD aK : Option Addr) (n cD nK cK : Nat) (Kf : Nat → Nat) (pos e sb : Nat) (u2 u3 u5 u6 u7 u8 u9 u10 u15 u16 u17 u18 u19 u20 u21 u22 u23 u24 u25 u26 u27 u28 u29 u30 u31 u32 u33 u34 u35 u36 u37 u38 u39 u40 u41 u42 u43 u44 u45 u46 u47 u48 u49 u50 u51 u52 u53 u54 u55 u56 u57 u58 u59 u60 u61 u62 u63 u64 u65 u66 u67 u68 u69 u70 u71 u72 u73 u74 u75 u76 u77 u78 u79 u80 u81 u82 u83 u84 u85 u86 u87 u88 u89 u90 u91 u92 u93 u94 u95 u96 u97 u98 u99 u100 u101 u102 u103 u104 u105 u106 u107 u108 u109 u110 u111 u112 u113 u114 u115 u116 u117 u118 u119 u120 u121 u122 u123 u124 u125 u126 u127 u128 u129 u130 u131 u132 u133 u134 u135 u136 u137 u138 u139 u140 u141 u142 u143 u144 u145 u146 u147 u148 u149 u150 u151 u152 u153 u154 u155 u156 u157 u158 u159 u160 u161 u162 u163 u164 u165 u166 u167 u168 u169 u170 u171 u172 u173 u174 u175 u176 u177 u178 u179 u180 u181 u182 u183 u184 u185 u186 u187 u188 u189 u190 u191 u192 u193 u194 u195 u196 u197 u198 u199 u200 u201 u202 u203 u204 u205 u206 u207 u208 u209 u210 u211 u212 u213 u214 u215 u216 u217 u218 u219 u220 u221 u222 u223 u224 u225 u226 u227 u228 u229 u230 u231 u232 u233 u234 u235 u236 u237 u238 u239 u240 u241 u242 u243 u244 u245 u246 u247 u248 u249 u250 u251 u252 u253 u254 u255 u256 u257 u258 u259 u260 u261 u262 u263 u264 u265 u266 u267 u268 u269 u270 u271 u272 u273 u274 u275 u276 u277 u278 u279 u280 u281 u282 u283 u284 u285 u286 u287 u288 u289 u290 u291 u292 u293 u294 u295 u296 u297 u298 u299 u300 u301 u302 u303 u304 u305 u306 u307 u308 u309 u310 u311 u312 u313 u314 u315 u316 u317 u318 u319 u320 u321 u322 u323 u324 u325 u326 u327 u328 u329 u330 u331 u332 u333 u334 u335 u336 u337 u338 u339 u340 u341 u342 u343 u344 u345 u346 u347 u348 u349 u350 u351 u352 u353 u354 u355 u356 u357 u358 u359 u360 u361 : Value)
    (hset : ∃ t, Blk wc sb #[.int .u64 (setW (sOf s) 0), .int .u64 (setW (sOf s) 1)] t) (hb : Below W.heap.size W wc) (hi : Inp W aD n D aK nK Kf) (hs : s.size ≤ 1024) (hpos : pos ≤ e) (he : e ≤ n) (hn : n ≤ 1024) (hnK : nK ≤ 1024) :
    Code.wp Ybad.prog (seqTail 7 (Ybad.f3.body.getD .skip)) (bodyPost Ybad.prog Ybad.f3 (LPost W)) ⟨((.slice aD n cD : Value) :: (.string s : Value) :: u2 :: u3 :: (.slice aK nK cK : Value) :: u5 :: u6 :: u7 :: u8 :: u9 :: u10 :: (.int .i64 n : Value) :: (.int .i64 pos : Value) :: (.int .i64 e : Value) :: (.pointer (some ⟨sb, 0, none⟩) : Value) :: u15 :: u16 :: u17 :: u18 :: u19 :: u20 :: u21 :: u22 :: u23 :: u24 :: u25 :: u26 :: u27 :: u28 :: u29 :: u30 :: u31 :: u32 :: u33 :: u34 :: u35 :: u36 :: u37 :: u38 :: u39 :: u40 :: u41 :: u42 :: u43 :: u44 :: u45 :: u46 :: u47 :: u48 :: u49 :: u50 :: u51 :: u52 :: u53 :: u54 :: u55 :: u56 :: u57 :: u58 :: u59 :: u60 :: u61 :: u62 :: u63 :: u64 :: u65 :: u66 :: u67 :: u68 :: u69 :: u70 :: u71 :: u72 :: u73 :: u74 :: u75 :: u76 :: u77 :: u78 :: u79 :: u80 :: u81 :: u82 :: u83 :: u84 :: u85 :: u86 :: u87 :: u88 :: u89 :: u90 :: u91 :: u92 :: u93 :: u94 :: u95 :: u96 :: u97 :: u98 :: u99 :: u100 :: u101 :: u102 :: u103 :: u104 :: u105 :: u106 :: u107 :: u108 :: u109 :: u110 :: u111 :: u112 :: u113 :: u114 :: u115 :: u116 :: u117 :: u118 :: u119 :: u120 :: u121 :: u122 :: u123 :: u124 :: u125 :: u126 :: u127 :: u128 :: u129 :: u130 :: u131 :: u132 :: u133 :: u134 :: u135 :: u136 :: u137 :: u138 :: u139 :: u140 :: u141 :: u142 :: u143 :: u144 :: u145 :: u146 :: u147 :: u148 :: u149 :: u150 :: u151 :: u152 :: u153 :: u154 :: u155 :: u156 :: u157 :: u158 :: u159 :: u160 :: u161 :: u162 :: u163 :: u164 :: u165 :: u166 :: u167 :: u168 :: u169 :: u170 :: u171 :: u172 :: u173 :: u174 :: u175 :: u176 :: u177 :: u178 :: u179 :: u180 :: u181 :: u182 :: u183 :: u184 :: u185 :: u186 :: u187 :: u188 :: u189 :: u190 :: u191 :: u192 :: u193 :: u194 :: u195 :: u196 :: u197 :: u198 :: u199 :: u200 :: u201 :: u202 :: u203 :: u204 :: u205 :: u206 :: u207 :: u208 :: u209 :: u210 :: u211 :: u212 :: u213 :: u214 :: u215 :: u216 :: u217 :: u218 :: u219 :: u220 :: u221 :: u222 :: u223 :: u224 :: u225 :: u226 :: u227 :: u228 :: u229 :: u230 :: u231 :: u232 :: u233 :: u234 :: u235 :: u236 :: u237 :: u238 :: u239 :: u240 :: u241 :: u242 :: u243 :: u244 :: u245 :: u246 :: u247 :: u248 :: u249 :: u250 :: u251 :: u252 :: u253 :: u254 :: u255 :: u256 :: u257 :: u258 :: u259 :: u260 :: u261 :: u262 :: u263 :: u264 :: u265 :: u266 :: u267 :: u268 :: u269 :: u270 :: u271 :: u272 :: u273 :: u274 :: u275 :: u276 :: u277 :: u278 :: u279 :: u280 :: u281 :: u282 :: u283 :: u284 :: u285 :: u286 :: u287 :: u288 :: u289 :: u290 :: u291 :: u292 :: u293 :: u294 :: u295 :: u296 :: u297 :: u298 :: u299 :: u300 :: u301 :: u302 :: u303 :: u304 :: u305 :: u306 :: u307 :: u308 :: u309 :: u310 :: u311 :: u312 :: u313 :: u314 :: u315 :: u316 :: u317 :: u318 :: u319 :: u320 :: u321 :: u322 :: u323 :: u324 :: u325 :: u326 :: u327 :: u328 :: u329 :: u330 :: u331 :: u332 :: u333 :: u334 :: u335 :: u336 :: u337 :: u338 :: u339 :: u340 :: u341 :: u342 :: u343 :: u344 :: u345 :: u346 :: u347 :: u348 :: u349 :: u350 :: u351 :: u352 :: u353 :: u354 :: u355 :: u356 :: u357 :: u358 :: u359 :: u360 :: u361 :: []).toArray, []⟩ wc := by
  conv => arg 2; whnf
  obtain ⟨i0, hi0, hz0, hz1, hz2⟩ := info_parts info26
  obtain ⟨i1, hi1, hy0, hy1, hy2⟩ := info_parts info33
  obtain ⟨i2, hi2, hx0, hx1, hx2⟩ := info_parts info25
  have HI : Hid (Inp W aD n D aK nK Kf) := hi
  have hbs : W.heap.size ≤ wc.heap.size := hb.size
  have HB : Hid (Below W.heap.size W wc) := hb
  have HS : Hid (∃ t, Blk wc sb #[.int .u64 (setW (sOf s) 0), .int .u64 (setW (sOf s) 1)] t) := hset
  clear hi hb hset
  go_upto_region 14 with (at_make; (refine wpList_make_full _ rfl (.const (.int .i64 3)) (.const (.int .i64 3)) 27 rfl wc.heap.size 26 i0 (.agg #[.int .u64 0, .int .u64 0]) 2 Ybad.underlying27 hi0 hz0 hz1 .i64 .i64 _ _ 3 rfl rfl rfl rfl (by rw [hz2]; omega) (by unfold maxLen; omega) (Nat.le_refl _) ?_); intro w1 hown hgrow; rw [made26] at hown; (have HO : Hid (Blk w1 wc.heap.size #[.int .u64 0, .int .u64 0, .int .u64 0, .int .u64 0, .int .u64 0, .int .u64 0] 26) := own_full hown); (have HG : Hid (wc.grownBy w1 none) := hgrow); clear hown hgrow)
  have HB1 : Hid (Below wc.heap.size wc w1) := Below.grown0 (Below.refl _ _) HG.out (Nat.le_refl _)
  obtain ⟨t, hst⟩ := HS.out
  have hst1 := (Kp.of_below (H := []) HB1.out).block _ _ _ hst (by simp)
  have s0 := hst1.cell 0
  have s1 := hst1.cell 1
  have o4 := HO.out.cell 4
  have o5 := HO.out.cell 5
  have f4 := HO.out.free 4
  have f5 := HO.out.free 5
  simp at s0 s1 o4 o5
  clear hst1 hst
  go_upto_region 15 with fail
  obtain ⟨w2, hw2⟩ : ∃ w2, (w1.setCell ⟨wc.heap.size, 4, none⟩ (.int .u64 (setW (sOf s) 0))).setCell ⟨wc.heap.size, 5, none⟩ (.int .u64 (setW (sOf s) 1)) = w2 := ⟨_, rfl⟩
  have HA2 : Hid (Blk w2 wc.heap.size #[.int .u64 0, .int .u64 0, .int .u64 0, .int .u64 0, .int .u64 (setW (sOf s) 0), .int .u64 (setW (sOf s) 1)] 26) := by rw [← hw2]; exact (HO.out.set 4 _).set 5 _
  have HB2 : Hid (Below wc.heap.size wc w2) := by rw [← hw2]; exact RowKit.Below.setCell (RowKit.Below.setCell HB1.out (p := ⟨wc.heap.size, 4, none⟩) (Nat.le_refl _) _) (p := ⟨wc.heap.size, 5, none⟩) (Nat.le_refl _) _
  rw [hw2]
  clear hw2 s0 s1 o4 o5 f4 f5 HO HB1 HG
  go_upto_region 16 with (at_make; (refine wpList_make_full _ rfl (.const (.int .i64 3)) (.const (.int .i64 3)) 28 rfl w2.heap.size 33 i1 (.agg #[.int .u8 0, .int .u32 0, .int .u32 0, .slice none 0 0]) 4 Ybad.underlying28 hi1 hy0 hy1 .i64 .i64 _ _ 3 rfl rfl rfl rfl (by rw [hy2]; omega) (by unfold maxLen; omega) (Nat.le_refl _) ?_); intro w3 hown hgrow; rw [made33] at hown; (have HO : Hid (Blk w3 w2.heap.size #[.int .u8 0, .int .u32 0, .int .u32 0, .slice none 0 0, .int .u8 0, .int .u32 0, .int .u32 0, .slice none 0 0, .int .u8 0, .int .u32 0, .int .u32 0, .slice none 0 0] 33) := own_full hown); (have HG : Hid (w2.grownBy w3 none) := hgrow); clear hown hgrow)
  have HB3 : Hid (Below w2.heap.size w2 w3) := Below.grown0 (Below.refl _ _) HG.out (Nat.le_refl _)
  have o2 := HO.out.cell 2
  have f2 := HO.out.free 2
  simp at o2
  go_upto_region 17 with fail
  obtain ⟨w4, hw4⟩ : ∃ w4, w3.setCell ⟨w2.heap.size, 2, none⟩ (.int .u32 1) = w4 := ⟨_, rfl⟩
  have HB4 : Hid (Below w2.heap.size w2 w4) := by rw [← hw4]; exact RowKit.Below.setCell HB3.out (p := ⟨w2.heap.size, 2, none⟩) (Nat.le_refl _) _
  have HI4 : Hid (∃ arr, Blk w4 w2.heap.size arr 33 ∧ arr[2]? = some (.int .u32 1)) := by rw [← hw4]; exact ⟨_, HO.out.set 2 _, rfl⟩
  have HA4 : Hid (∃ arr, Blk w4 wc.heap.size arr 26 ∧ arr[4]? = some (.int .u64 (setW (sOf s) 0)) ∧ arr[5]? = some (.int .u64 (setW (sOf s) 1))) := ⟨_, (Kp.of_below (H := []) HB4.out).block _ _ _ HA2.out (by simp), rfl, rfl⟩
  have HBW : Hid (Below W.heap.size W w4) := (HB.out.trans (HB2.out.mono hbs)).trans (HB4.out.mono (by have := HB2.out.size; omega))
  have hbs4 : W.heap.size ≤ w4.heap.size := HBW.out.size
  rw [hw4]
  clear hw4 o2 f2 HO HB3 HG HS HB HB4 HB2 HA2
  go_cut [19] (fun v wx => v = .slice (some ⟨w4.heap.size, 0, none⟩) ((n / 64 + 1) * 3) ((n / 64 + 1) * 3) ∧ PreB W wx n wc.heap.size w2.heap.size w4.heap.size (sOf s))
  case first =>
    go_wp2_with (at_make; (refine wpList_make_full _ rfl (.tmp 104) (.tmp 104) 34 rfl w4.heap.size 25 i2 (.int .u64 0) 1 Ybad.underlying34 hi2 hx0 hx1 .i64 .i64 _ _ ((n / 64 + 1) * 3) rfl rfl (by simp) (by simp) (by rw [hx2]; omega) (by unfold maxLen; omega) (Nat.le_refl _) ?_); intro w5 hown hgrow; (have HY : Hid (PreB W w5 n wc.heap.size w2.heap.size w4.heap.size (sOf s)) := preB_of hown hgrow HA4.out HI4.out HBW.out); clear hown hgrow)
    go_meet
    case rel => exact ⟨rfl, HY.out⟩
  case rest =>
    obtain ⟨rfl, hpb⟩ := hcut
    refine ‹∀ (a : Act) (w : World), Code.wp Ybad.prog _ _ a w → _› _ _ ?_
    exact stB2 W _ s D aD aK n cD nK cK Kf pos e _ _ _ _ _ _ _ _ _ _ _ _ _ _ _ _ _ _ _ _ _ _ _ _ _ _ _ _ _ _ _ _ _ _ _ _ _ _ _ _ _ _ _ _ _ _ _ _ _ _ _ _ _ _ _ _ _ _ _ _ _ _ _ _ _ _ _ _ _ _ _ _ _ _ _ _ _ _ _ _ _ _ _ _ _ _ _ _ _ _ _ _ _ _ _ _ _ _ _ _ _ _ _ _ _ _ _ _ _ _ _ _ _ _ _ _ _ _ _ _ _ _ _ _ _ _ _ _ _ _ _ _ _ _ _ _ _ _ _ _ _ _ _ _ _ _ _ _ _ _ _ _ _ _ _ _ _ _ _ _ _ _ _ _ _ _ _ _ _ _ _ _ _ _ _ _ _ _ _ _ _ _ _ _ _ _ _ _ _ _ _ _ _ _ _ _ _ _ _ _ _ _ _ _ _ _ _ _ _ _ _ _ _ _ _ _ _ _ _ _ _ _ _ _ _ _ _ _ _ _ _ _ _ _ _ _ _ _ _ _ _ _ _ _ _ _ _ _ _ _ _ _ _ _ _ _ _ _ _ _ _ _ _ _ _ _ _ _ _ _ _ _ _ _ _ _ _ _ _ _ _ _ _ _ _ _ _ _ _ _ _ _ _ _ _ _ _ _ _ _ _ _ _ _ _ _ _ _ _ _ _ _ _ _ _ _ _ _ _ _ _ _ _ _ _ _ _ _ _ _ _ _ _ _ _ _ _ _ _ _ _ _ _ _ _ _ _ _ _ _ _ _ _ _ _ _ _ _ _ hpb HI.out hs hpos he hn hnK
end Wlk
end Go.Proofs.YbulkcqiDoor
