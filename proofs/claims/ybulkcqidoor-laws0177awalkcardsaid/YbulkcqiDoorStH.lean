import Derived.Test.YbulkcqiDoorStI
namespace Go.Proofs.YbulkcqiDoor
open Go.RowKit
set_option linter.unusedVariables false
set_option linter.unusedSimpArgs false

namespace Wlk
/-- Between two rounds of the building of exp: outer, inner. -/
def HRel (V : Nat → Nat → Bool) (n N : Nat) (w0 : World) (v : Value) (wr : World) : Prop := ∃ p : Nat, p ≤ n + 1 ∧ v = .int .i64 p ∧ Row wr w0.heap.size 25 (fun i => .int .u64 (wordOf (upTo V p 0) i)) N ∧ Below w0.heap.size w0 wr
def HRel2 (V : Nat → Nat → Bool) (p N : Nat) (w0 : World) (v : Value) (wr : World) : Prop := ∃ k : Nat, k ≤ 3 ∧ v = .int .i64 k ∧ Row wr w0.heap.size 25 (fun i => .int .u64 (wordOf (upTo V p k) i)) N ∧ Below w0.heap.size w0 wr
theorem row_next {V : Nat → Nat → Bool} {p N : Nat} {w : World} {b : Nat} (h : Row w b 25 (fun i => .int .u64 (wordOf (upTo V p 3) i)) N) : Row w b 25 (fun i => .int .u64 (wordOf (upTo V (p + 1) 0) i)) N :=
  h.congr fun j hj => by rw [wordOf_congr (upTo V p 3) (upTo V (p + 1) 0) j (fun b hb => (upTo_next V p (j % 3) _ (by omega)).symm)]
theorem row_mark {V : Nat → Nat → Bool} {p k N : Nat} {w : World} {b : Nat} (h : Row w b 25 (fun i => .int .u64 (wordOf (upTo V p k) i)) N) (hk : k < 3) (hN : p / 64 * 3 + k < N) (hV : V k p = true) :
    Row (w.setCell ⟨b, p / 64 * 3 + k, none⟩ (.int .u64 ((wordOf (upTo V p k) (p / 64 * 3 + k) ||| 2 ^ (p % 64) : Nat) : Int))) b 25 (fun i => .int .u64 (wordOf (upTo V p (k + 1)) i)) N := by
  refine h.set hN (fun j hj => ?_)
  rw [upTo_mark V p k hV, word_mark1 _ k p j hk]
  split
  · rename_i e; rw [e]
  · rfl
theorem or_bit (x s : Nat) (hx : x < 18446744073709551616) (hs : s < 64) : bits BinOp.or IntKind.u64 (x : Int) (IntKind.u64.wrap ((2 : Int) ^ s)) = ((x ||| 2 ^ s : Nat) : Int) := by
  have : 2 ^ s < 18446744073709551616 := Nat.pow_lt_pow_right (a := 2) (n := 64) (by decide) hs
  rw [bit_int s hs, bits_or_u64_nat _ _ hx this]

set_option maxRecDepth 100000 in
set_option maxHeartbeats 4000000 in
theorem stH (W wc : World) (M : MC) (V : Nat → Nat → Bool) (pos last sb sc vb vc : Nat) (bk ck : Nat → Nat) (far0 : Int) (u0 u1 u2 u3 u4 u5 u6 u7 u8 u9 u10 u13 u14 u15 u16 u17 u18 u19 u21 u23 u24 u25 u26 u27 u29 u31 u32 u33 u34 u35 u36 u37 u38 u39 u40 u41 u42 u43 u44 u45 u46 u47 u48 u49 u50 u51 u52 u53 u54 u55 u56 u57 u58 u59 u60 u61 u62 u63 u64 u65 u66 u67 u68 u69 u70 u71 u72 u73 u74 u75 u76 u77 u78 u79 u80 u81 u82 u83 u84 u85 u86 u87 u88 u89 u90 u91 u92 u93 u94 u95 u96 u97 u98 u99 u100 u101 u102 u103 u104 u105 u106 u107 u108 u109 u110 u111 u112 u113 u114 u115 u116 u117 u118 u119 u120 u121 u122 u123 u124 u125 u126 u127 u128 u129 u130 u131 u132 u133 u134 u135 u136 u137 u138 u139 u140 u141 u142 u143 u144 u145 u146 u147 u148 u149 u150 u151 u152 u153 u154 u155 u156 u157 u158 u159 u160 u161 u162 u163 u164 u165 u166 u167 u168 u169 u170 u171 u172 u173 u174 u175 u176 u177 u178 u179 u180 u181 u182 u183 u184 u185 u186 u187 u188 u189 u190 u191 u192 u193 u194 u195 u196 u197 u198 u199 u200 u201 u202 u203 u204 u205 u206 u207 u208 u209 u210 u211 u212 u213 u214 u215 u216 u217 u218 u219 u220 u221 u222 u223 u224 u225 u226 u227 u228 u229 u230 u231 u232 u233 u234 u235 u236 u237 u238 u239 u240 u241 u242 u243 u244 u245 u246 u247 u248 u249 u250 u251 u252 u253 u254 u255 u256 u257 u258 u259 u260 u261 u262 u263 u264 u265 u266 u267 u268 u269 u270 u271 u272 u273 u274 u275 u276 u277 u278 u279 u280 u281 u282 u283 u284 u285 u286 u287 u288 u289 u290 u291 u292 u293 u294 u295 u296 u297 u298 u299 u300 u301 u302 u303 u304 u305 u306 u307 u308 u309 u310 u311 u312 u313 u314 u315 u316 u317 u318 u319 u320 u321 u322 u323 u324 u325 u326 u327 u328 u329 u330 u331 u332 u333 u334 u335 u336 u337 u338 u339 u340 u341 u342 u343 u344 u345 u346 u347 u348 u349 u350 u351 u352 u353 u354 u355 u356 u357 u358 u359 u360 u361 : Value)
    (hm : MatAt wc M (if far0 < last then (last : Int) else far0) (.slice (some ⟨sb, 0, none⟩) 1 sc) V) (hv : VisAt wc W.heap.size vb M.n bk ck V) (hs : ∃ arr, Blk wc sb arr 54 ∧ arr[0]? = some (.int .u32 1) ∧ arr[1]? = some (.bool false) ∧ arr[2]? = some (.int .i64 pos) ∧ arr[3]? = some (.int .i64 last)) (hb : Below W.heap.size W wc) (hins : ∀ k p, M.n < p → V k p = false) (hn : M.n ≤ 1024) :
    Code.wp Ybad.prog (seqTail 29 (Ybad.f3.body.getD .skip)) (bodyPost Ybad.prog Ybad.f3 (LPost W)) ⟨(u0 :: u1 :: u2 :: u3 :: u4 :: u5 :: u6 :: u7 :: u8 :: u9 :: u10 :: (.int .i64 M.n : Value) :: (.int .i64 pos : Value) :: u13 :: u14 :: u15 :: u16 :: u17 :: u18 :: u19 :: (.slice (some ⟨vb, 0, none⟩) 3 vc : Value) :: u21 :: (.int .i64 far0 : Value) :: u23 :: u24 :: u25 :: u26 :: u27 :: (.pointer (some ⟨M.mb, 0, none⟩) : Value) :: u29 :: (.int .i64 last : Value) :: u31 :: u32 :: u33 :: u34 :: u35 :: u36 :: u37 :: u38 :: u39 :: u40 :: u41 :: u42 :: u43 :: u44 :: u45 :: u46 :: u47 :: u48 :: u49 :: u50 :: u51 :: u52 :: u53 :: u54 :: u55 :: u56 :: u57 :: u58 :: u59 :: u60 :: u61 :: u62 :: u63 :: u64 :: u65 :: u66 :: u67 :: u68 :: u69 :: u70 :: u71 :: u72 :: u73 :: u74 :: u75 :: u76 :: u77 :: u78 :: u79 :: u80 :: u81 :: u82 :: u83 :: u84 :: u85 :: u86 :: u87 :: u88 :: u89 :: u90 :: u91 :: u92 :: u93 :: u94 :: u95 :: u96 :: u97 :: u98 :: u99 :: u100 :: u101 :: u102 :: u103 :: u104 :: u105 :: u106 :: u107 :: u108 :: u109 :: u110 :: u111 :: u112 :: u113 :: u114 :: u115 :: u116 :: u117 :: u118 :: u119 :: u120 :: u121 :: u122 :: u123 :: u124 :: u125 :: u126 :: u127 :: u128 :: u129 :: u130 :: u131 :: u132 :: u133 :: u134 :: u135 :: u136 :: u137 :: u138 :: u139 :: u140 :: u141 :: u142 :: u143 :: u144 :: u145 :: u146 :: u147 :: u148 :: u149 :: u150 :: u151 :: u152 :: u153 :: u154 :: u155 :: u156 :: u157 :: u158 :: u159 :: u160 :: u161 :: u162 :: u163 :: u164 :: u165 :: u166 :: u167 :: u168 :: u169 :: u170 :: u171 :: u172 :: u173 :: u174 :: u175 :: u176 :: u177 :: u178 :: u179 :: u180 :: u181 :: u182 :: u183 :: u184 :: u185 :: u186 :: u187 :: u188 :: u189 :: u190 :: u191 :: u192 :: u193 :: u194 :: u195 :: u196 :: u197 :: u198 :: u199 :: u200 :: u201 :: u202 :: u203 :: u204 :: u205 :: u206 :: u207 :: u208 :: u209 :: u210 :: u211 :: u212 :: u213 :: u214 :: u215 :: u216 :: u217 :: u218 :: u219 :: u220 :: u221 :: u222 :: u223 :: u224 :: u225 :: u226 :: u227 :: u228 :: u229 :: u230 :: u231 :: u232 :: u233 :: u234 :: u235 :: u236 :: u237 :: u238 :: u239 :: u240 :: u241 :: u242 :: u243 :: u244 :: u245 :: u246 :: u247 :: u248 :: u249 :: u250 :: u251 :: u252 :: u253 :: u254 :: u255 :: u256 :: u257 :: u258 :: u259 :: u260 :: u261 :: u262 :: u263 :: u264 :: u265 :: u266 :: u267 :: u268 :: u269 :: u270 :: u271 :: u272 :: u273 :: u274 :: u275 :: u276 :: u277 :: u278 :: u279 :: u280 :: u281 :: u282 :: u283 :: u284 :: u285 :: u286 :: u287 :: u288 :: u289 :: u290 :: u291 :: u292 :: u293 :: u294 :: u295 :: u296 :: u297 :: u298 :: u299 :: u300 :: u301 :: u302 :: u303 :: u304 :: u305 :: u306 :: u307 :: u308 :: u309 :: u310 :: u311 :: u312 :: u313 :: u314 :: u315 :: u316 :: u317 :: u318 :: u319 :: u320 :: u321 :: u322 :: u323 :: u324 :: u325 :: u326 :: u327 :: u328 :: u329 :: u330 :: u331 :: u332 :: u333 :: u334 :: u335 :: u336 :: u337 :: u338 :: u339 :: u340 :: u341 :: u342 :: u343 :: u344 :: u345 :: u346 :: u347 :: u348 :: u349 :: u350 :: u351 :: u352 :: u353 :: u354 :: u355 :: u356 :: u357 :: u358 :: u359 :: u360 :: u361 :: []).toArray, []⟩ wc := by
  conv => arg 2; whnf
  obtain ⟨i0, hi0, hz0, hz1, hz2⟩ := info_parts info25
  have HM : Hid (MatAt wc M (if far0 < last then (last : Int) else far0) (.slice (some ⟨sb, 0, none⟩) 1 sc) V) := hm
  have HV : Hid (VisAt wc W.heap.size vb M.n bk ck V) := hv
  have HB : Hid (Below W.heap.size W wc) := hb
  have hbs : W.heap.size ≤ wc.heap.size := hb.size
  have HS : Hid (∃ arr, Blk wc sb arr 54 ∧ arr[0]? = some (.int .u32 1) ∧ arr[1]? = some (.bool false) ∧ arr[2]? = some (.int .i64 pos) ∧ arr[3]? = some (.int .i64 last)) := hs
  have HI : Hid (∀ k p, M.n < p → V k p = false) := hins
  have hN100 : M.N ≤ 100 := by unfold MC.N; omega
  have HN : Hid (M.N = (M.n / 64 + 1) * 3) := (rfl : M.N = (M.n / 64 + 1) * 3)
  clear hm hv hb hs hins
  go_upto_block 14 with (at_make; (refine wpList_make_full _ rfl (.tmp 262) (.tmp 262) 34 rfl W.heap.size 25 i0 (.int .u64 0) 1 Ybad.underlying34 hi0 hz0 hz1 .i64 .i64 _ _ M.N rfl rfl (by rw [HN.out]; simp) (by rw [HN.out]; simp) (by rw [hz2]; omega) (by unfold maxLen; omega) hbs ?_); intro w1 hown hgrow; (have HO : Hid (Row w1 wc.heap.size 25 (fun i => .int .u64 (wordOf (upTo V 0 0) i)) M.N) := row_of_own hown _ (fun i hi => by rw [made1 _ _ _ hi rfl, upTo_zero, wordOf_zero]; rfl)); (have HB1 : Hid (Below wc.heap.size wc w1) := Below.grown0 (Below.refl _ _) hgrow (Nat.le_refl _)); clear hown hgrow)
  go_cut [39, 40] (fun _ _ wx => Row wx wc.heap.size 25 (fun i => .int .u64 (wordOf V i)) M.N ∧ Below wc.heap.size wc wx)
  case first =>
    go_wp2
    go_loopw [39, 40] (fun v _ wr => HRel V M.n M.N wc v wr) (fun v _ _ => M.n + 1 - (intOf v).toNat)
    case atStart => exact ⟨0, Nat.zero_le _, rfl, HO.out, HB1.out⟩
    case round =>
      obtain ⟨p, hp, rfl, hr, hbr⟩ := hrel
      have HR : Hid (Row wr wc.heap.size 25 (fun i => .int .u64 (wordOf (upTo V p 0) i)) M.N) := hr
      have HBR : Hid (Below wc.heap.size wc wr) := hbr
      clear hr hbr
      by_cases hlt : p ≤ M.n
      · go_wp2
        go_loopw [40] (fun v wr2 => HRel2 V p M.N wc v wr2) (fun v _ => 3 - (intOf v).toNat)
        case atStart => exact ⟨0, by decide, rfl, HR.out, HBR.out⟩
        case round =>
          obtain ⟨k, hk, rfl, hr2, hb2⟩ := hrel
          have HR2 : Hid (Row wr wc.heap.size 25 (fun i => .int .u64 (wordOf (upTo V p k) i)) M.N) := hr2
          have HB2 : Hid (Below wc.heap.size wc wr) := hb2
          have hv2 := HV.out.kp (Kp.of_below (H := []) hb2) (by simp) (by simp)
          clear hr2 hb2
          by_cases hk3 : k < 3
          · have ct := hv2.cellTop hk3
            have cb := hv2.cell hk3 hlt
            have hN : p / 64 * 3 + k < M.N := by rw [HN.out]; omega
            have cx := HR2.out.cell hN
            have fx := HR2.out.free (p / 64 * 3 + k)
            clear hv2
            by_cases hV : V k p = true
            · rw [hV] at cb
              have HOB : Hid (bits BinOp.or IntKind.u64 ((wordOf (upTo V p k) (p / 64 * 3 + k) : Nat) : Int) (IntKind.u64.wrap ((2 : Int) ^ (p % 64))) = ((wordOf (upTo V p k) (p / 64 * 3 + k) ||| 2 ^ (p % 64) : Nat) : Int)) := or_bit _ _ (wordOf_lt _ _) (by omega)
              have R : HRel2 V p M.N wc (.int .i64 ((k : Int) + 1)) (wr.setCell ⟨wc.heap.size, p / 64 * 3 + k, none⟩ (.int .u64 ((wordOf (upTo V p k) (p / 64 * 3 + k) ||| 2 ^ (p % 64) : Nat) : Int))).drew :=
                ⟨k + 1, by omega, by simp, row_mark HR2.out hk3 hN hV, (HB2.out.setCell (Nat.le_refl _) _).drew⟩
              have HRR : Hid (HRel2 V p M.N wc (.int .i64 ((k : Int) + 1)) (wr.setCell ⟨wc.heap.size, p / 64 * 3 + k, none⟩ (.int .u64 ((wordOf (upTo V p k) (p / 64 * 3 + k) ||| 2 ^ (p % 64) : Nat) : Int))).drew) := R
              clear R
              go_wp2
              go_region
              rw [HOB.out]
              go_wp2
              go_roundw
              case rel => first | exact HRR.out | ((repeat apply Exists.intro); exact ⟨HRR.out, rfl⟩)
              case measure => simp [intOf]; omega
            · have hV' : V k p = false := by simpa using hV
              rw [hV'] at cb
              have HRR : Hid (HRel2 V p M.N wc (.int .i64 ((k : Int) + 1)) wr) := ⟨k + 1, by omega, by simp, by rw [upTo_skip V p k hV']; exact HR2.out, HB2.out⟩
              clear hV
              go_wp2
              first
                | exact ⟨HRR.out, by simp [intOf]; omega⟩
                | (go_roundw
                   case rel => first | exact HRR.out | ((repeat apply Exists.intro); exact ⟨HRR.out, rfl⟩)
                   case measure => simp [intOf]; omega)
          · have HRR : Hid (∀ u : Value, HRel V M.n M.N wc (.int .i64 ((p : Int) + 1)) wr) := fun _ => ⟨p + 1, by omega, by simp, by have h := HR2.out; rw [show k = 3 by omega] at h; exact row_next h, HB2.out⟩
            clear hv2
            go_wp2
            first
              | exact ⟨HRR.out (.bool true), by simp [intOf]; omega⟩
              | (go_roundw
                 case rel => first | exact HRR.out (.bool true) | ((repeat apply Exists.intro); exact ⟨HRR.out (.bool true), rfl⟩)
                 case measure => simp [intOf]; omega)
      · have HE : Hid (Row wr wc.heap.size 25 (fun i => .int .u64 (wordOf V i)) M.N ∧ Below wc.heap.size wc wr) := by
          have h := HR.out
          rw [show p = M.n + 1 by omega, upTo_all V M.n HI.out] at h
          exact ⟨h, HBR.out⟩
        go_wp2
        go_meet
        case rel => exact HE.out
  case rest =>
    have hkp := Kp.of_below (H := []) hcut.2
    refine ‹∀ (a : Act) (w : World), Code.wp Ybad.prog _ _ a w → _› _ _ ?_
    exact stI W _ M V pos last sb sc _ _ far0 _ _ _ _ _ _ _ _ _ _ _ _ _ _ _ _ _ _ _ _ _ _ _ _ _ _ _ _ _ _ _ _ _ _ _ _ _ _ _ _ _ _ _ _ _ _ _ _ _ _ _ _ _ _ _ _ _ _ _ _ _ _ _ _ _ _ _ _ _ _ _ _ _ _ _ _ _ _ _ _ _ _ _ _ _ _ _ _ _ _ _ _ _ _ _ _ _ _ _ _ _ _ _ _ _ _ _ _ _ _ _ _ _ _ _ _ _ _ _ _ _ _ _ _ _ _ _ _ _ _ _ _ _ _ _ _ _ _ _ _ _ _ _ _ _ _ _ _ _ _ _ _ _ _ _ _ _ _ _ _ _ _ _ _ _ _ _ _ _ _ _ _ _ _ _ _ _ _ _ _ _ _ _ _ _ _ _ _ _ _ _ _ _ _ _ _ _ _ _ _ _ _ _ _ _ _ _ _ _ _ _ _ _ _ _ _ _ _ _ _ _ _ _ _ _ _ _ _ _ _ _ _ _ _ _ _ _ _ _ _ _ _ _ _ _ _ _ _ _ _ _ _ _ _ _ _ _ _ _ _ _ _ _ _ _ _ _ _ _ _ _ _ _ _ _ _ _ _ _ _ _ _ _ _ _ _ _ _ _ _ _ _ _ _ _ _ _ _ _ _ _ _ _ _ _ _ _ _ _ _ _ _ _ _ _ _ _ _ _ _ _ _ _ _ _ _ _ _ _ _ _ _ _ _ _ _ _ _ _ _ _ _ _ _ _ _ _ _ _ _ _ _ _ _ _ _ _ (HM.out.kp hkp (by simp) (by simp) (by simp) (by simp)) hcut.1 (by obtain ⟨arr, sB, hr⟩ := HS.out; exact ⟨arr, hkp.block _ _ _ sB (by simp), hr⟩) (HB.out.trans (hcut.2.mono hbs)) hN100
end Wlk
end Go.Proofs.YbulkcqiDoor
