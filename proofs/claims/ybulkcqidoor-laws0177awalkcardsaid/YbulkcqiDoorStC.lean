import Derived.Test.YbulkcqiDoorStC2
namespace Go.Proofs.YbulkcqiDoor
open Go.RowKit
set_option linter.unusedVariables false
set_option linter.unusedSimpArgs false

namespace Wlk
/-- Between two rounds over the marks. -/
def MRel (W : World) (n ab ib wb vb : Nat) (bk ck : Nat → Nat) (S : Nat → Bool) (nK : Nat) (f v : Value) (wr : World) : Prop := ∃ (i : Nat) (far : Int) (V : Nat → Nat → Bool), i ≤ nK ∧ v = .int .i64 i ∧ f = .int .i64 far ∧ Pre W wr n ab ib wb vb bk ck V S
def MEnd (W : World) (n ab ib wb vb : Nat) (bk ck : Nat → Nat) (S : Nat → Bool) (f : Value) (wr : World) : Prop := ∃ (far : Int) (V : Nat → Nat → Bool), f = .int .i64 far ∧ Pre W wr n ab ib wb vb bk ck V S

theorem idx_lt (p n a : Nat) (hp : p ≤ n) (ha : a < 3) : p / 64 * 3 + a < (n / 64 + 1) * 3 := by omega

theorem pre_mark {W w : World} {n ab ib wb vb : Nat} {bk ck : Nat → Nat} {V : Nat → Nat → Bool} {S : Nat → Bool} (h : Pre W w n ab ib wb vb bk ck V S) {a p : Nat} (ha : a < 3) (hp : p ≤ n) (hN : p / 64 * 3 + a < (n / 64 + 1) * 3) :
    (w.setCell ⟨bk a, p, none⟩ (.bool true)).cell? ⟨wb, p / 64 * 3 + a, none⟩ = some (.int .u64 (wordOf V (p / 64 * 3 + a))) ∧ (w.setCell ⟨bk a, p, none⟩ (.bool true)).frozen? ⟨wb, p / 64 * 3 + a, none⟩ = false ∧
    Pre W ((w.setCell ⟨bk a, p, none⟩ (.bool true)).setCell ⟨wb, p / 64 * 3 + a, none⟩ (.int .u64 ((wordOf V (p / 64 * 3 + a) ||| 2 ^ (p % 64) : Nat) : Int))).drew n ab ib wb vb bk ck (mark1 V a p) S := by
  have k1 : Kp [4] w (w.setCell ⟨bk a, p, none⟩ (.bool true)) := h.vis.kpr ha (Kp.refl _ _) (by decide) _ _
  have wd1 := h.wd.kp k1 (by decide)
  have b1 : Below W.heap.size W (w.setCell ⟨bk a, p, none⟩ (.bool true)) := h.below.setCell (by exact h.vis.ge a ha) _
  have v1 : VisAt (w.setCell ⟨bk a, p, none⟩ (.bool true)) W.heap.size vb n bk ck (mark1 V a p) := h.vis.mark ha hp (fun _ _ => rfl)
  have k2 : Kp [25] (w.setCell ⟨bk a, p, none⟩ (.bool true)) ((w.setCell ⟨bk a, p, none⟩ (.bool true)).setCell ⟨wb, p / 64 * 3 + a, none⟩ (.int .u64 ((wordOf V (p / 64 * 3 + a) ||| 2 ^ (p % 64) : Nat) : Int))) := by
    obtain ⟨arr, hb, _⟩ := wd1
    exact (Kp.refl _ _).setCell hb (by decide) _ _
  have k3 : Kp [4, 25] w ((w.setCell ⟨bk a, p, none⟩ (.bool true)).setCell ⟨wb, p / 64 * 3 + a, none⟩ (.int .u64 ((wordOf V (p / 64 * 3 + a) ||| 2 ^ (p % 64) : Nat) : Int))) := (k1.wide (by simp)).trans (k2.wide (by simp))
  refine ⟨wd1.cell hN, wd1.free _, ⟨wd1.set hN (fun j hj => ?_), ⟨(v1.kp k2 (by decide) (by decide)).top, (v1.kp k2 (by decide) (by decide)).rows, h.vis.ne, h.vis.ge⟩, ?_, ?_, (b1.setCell (by exact h.wb) _).drew, h.wb, fun k q hq => ?_⟩⟩
  · rw [word_mark1 V a p j ha]
    split
    · rename_i e; rw [e]
    · rfl
  · obtain ⟨arr, a1, a2⟩ := h.a0
    exact ⟨arr, k3.block _ _ _ a1 (by decide), a2⟩
  · obtain ⟨arr, a1, a2⟩ := h.i0
    exact ⟨arr, k3.block _ _ _ a1 (by decide), a2⟩
  · unfold mark1
    rw [h.ins k q hq]
    have hq2 : (q == p) = false := by rw [beq_eq_false_iff_ne]; omega
    simp [hq2]

set_option maxRecDepth 100000 in
set_option maxHeartbeats 4000000 in
theorem stC (W wc : World) (s : ByteArray) (D : Nat → Nat) (aD aK : Option Addr) (n cD nK cK : Nat) (Kf : Nat → Nat) (pos e ab ac ib ic wb wcap vb vc : Nat) (bk ck : Nat → Nat) (u2 u3 u5 u6 u7 u8 u9 u10 u14 u15 u16 u21 u22 u23 u24 u25 u26 u27 u28 u29 u30 u31 u32 u33 u34 u35 u36 u37 u38 u39 u40 u41 u42 u43 u44 u45 u46 u47 u48 u49 u50 u51 u52 u53 u54 u55 u56 u57 u58 u59 u60 u61 u62 u63 u64 u65 u66 u67 u68 u69 u70 u71 u72 u73 u74 u75 u76 u77 u78 u79 u80 u81 u82 u83 u84 u85 u86 u87 u88 u89 u90 u91 u92 u93 u94 u95 u96 u97 u98 u99 u100 u101 u102 u103 u104 u105 u106 u107 u108 u109 u110 u111 u112 u113 u114 u115 u116 u117 u118 u119 u120 u121 u122 u123 u124 u125 u126 u127 u128 u129 u130 u131 u132 u133 u134 u135 u136 u137 u138 u139 u140 u141 u142 u143 u144 u145 u146 u147 u148 u149 u150 u151 u152 u153 u154 u155 u156 u157 u158 u159 u160 u161 u162 u163 u164 u165 u166 u167 u168 u169 u170 u171 u172 u173 u174 u175 u176 u177 u178 u179 u180 u181 u182 u183 u184 u185 u186 u187 u188 u189 u190 u191 u192 u193 u194 u195 u196 u197 u198 u199 u200 u201 u202 u203 u204 u205 u206 u207 u208 u209 u210 u211 u212 u213 u214 u215 u216 u217 u218 u219 u220 u221 u222 u223 u224 u225 u226 u227 u228 u229 u230 u231 u232 u233 u234 u235 u236 u237 u238 u239 u240 u241 u242 u243 u244 u245 u246 u247 u248 u249 u250 u251 u252 u253 u254 u255 u256 u257 u258 u259 u260 u261 u262 u263 u264 u265 u266 u267 u268 u269 u270 u271 u272 u273 u274 u275 u276 u277 u278 u279 u280 u281 u282 u283 u284 u285 u286 u287 u288 u289 u290 u291 u292 u293 u294 u295 u296 u297 u298 u299 u300 u301 u302 u303 u304 u305 u306 u307 u308 u309 u310 u311 u312 u313 u314 u315 u316 u317 u318 u319 u320 u321 u322 u323 u324 u325 u326 u327 u328 u329 u330 u331 u332 u333 u334 u335 u336 u337 u338 u339 u340 u341 u342 u343 u344 u345 u346 u347 u348 u349 u350 u351 u352 u353 u354 u355 u356 u357 u358 u359 u360 u361 : Value)
    (hp : Pre W wc n ab ib wb vb bk ck (fun _ _ => false) (sOf s)) (hi : Inp W aD n D aK nK Kf) (hs : s.size ≤ 1024) (hpos : pos ≤ e) (he : e ≤ n) (hn : n ≤ 1024) (hnK : nK ≤ 1024) :
    Code.wp Ybad.prog (seqTail 14 (Ybad.f3.body.getD .skip)) (bodyPost Ybad.prog Ybad.f3 (LPost W)) ⟨((.slice aD n cD : Value) :: (.string s : Value) :: u2 :: u3 :: (.slice aK nK cK : Value) :: u5 :: u6 :: u7 :: u8 :: u9 :: u10 :: (.int .i64 n : Value) :: (.int .i64 pos : Value) :: (.int .i64 e : Value) :: u14 :: u15 :: u16 :: (.slice (some ⟨ab, 0, none⟩) 3 ac : Value) :: (.slice (some ⟨ib, 0, none⟩) 3 ic : Value) :: (.slice (some ⟨wb, 0, none⟩) ((n / 64 + 1) * 3) wcap : Value) :: (.slice (some ⟨vb, 0, none⟩) 3 vc : Value) :: u21 :: u22 :: u23 :: u24 :: u25 :: u26 :: u27 :: u28 :: u29 :: u30 :: u31 :: u32 :: u33 :: u34 :: u35 :: u36 :: u37 :: u38 :: u39 :: u40 :: u41 :: u42 :: u43 :: u44 :: u45 :: u46 :: u47 :: u48 :: u49 :: u50 :: u51 :: u52 :: u53 :: u54 :: u55 :: u56 :: u57 :: u58 :: u59 :: u60 :: u61 :: u62 :: u63 :: u64 :: u65 :: u66 :: u67 :: u68 :: u69 :: u70 :: u71 :: u72 :: u73 :: u74 :: u75 :: u76 :: u77 :: u78 :: u79 :: u80 :: u81 :: u82 :: u83 :: u84 :: u85 :: u86 :: u87 :: u88 :: u89 :: u90 :: u91 :: u92 :: u93 :: u94 :: u95 :: u96 :: u97 :: u98 :: u99 :: u100 :: u101 :: u102 :: u103 :: u104 :: u105 :: u106 :: u107 :: u108 :: u109 :: u110 :: u111 :: u112 :: u113 :: u114 :: u115 :: u116 :: u117 :: u118 :: u119 :: u120 :: u121 :: u122 :: u123 :: u124 :: u125 :: u126 :: u127 :: u128 :: u129 :: u130 :: u131 :: u132 :: u133 :: u134 :: u135 :: u136 :: u137 :: u138 :: u139 :: u140 :: u141 :: u142 :: u143 :: u144 :: u145 :: u146 :: u147 :: u148 :: u149 :: u150 :: u151 :: u152 :: u153 :: u154 :: u155 :: u156 :: u157 :: u158 :: u159 :: u160 :: u161 :: u162 :: u163 :: u164 :: u165 :: u166 :: u167 :: u168 :: u169 :: u170 :: u171 :: u172 :: u173 :: u174 :: u175 :: u176 :: u177 :: u178 :: u179 :: u180 :: u181 :: u182 :: u183 :: u184 :: u185 :: u186 :: u187 :: u188 :: u189 :: u190 :: u191 :: u192 :: u193 :: u194 :: u195 :: u196 :: u197 :: u198 :: u199 :: u200 :: u201 :: u202 :: u203 :: u204 :: u205 :: u206 :: u207 :: u208 :: u209 :: u210 :: u211 :: u212 :: u213 :: u214 :: u215 :: u216 :: u217 :: u218 :: u219 :: u220 :: u221 :: u222 :: u223 :: u224 :: u225 :: u226 :: u227 :: u228 :: u229 :: u230 :: u231 :: u232 :: u233 :: u234 :: u235 :: u236 :: u237 :: u238 :: u239 :: u240 :: u241 :: u242 :: u243 :: u244 :: u245 :: u246 :: u247 :: u248 :: u249 :: u250 :: u251 :: u252 :: u253 :: u254 :: u255 :: u256 :: u257 :: u258 :: u259 :: u260 :: u261 :: u262 :: u263 :: u264 :: u265 :: u266 :: u267 :: u268 :: u269 :: u270 :: u271 :: u272 :: u273 :: u274 :: u275 :: u276 :: u277 :: u278 :: u279 :: u280 :: u281 :: u282 :: u283 :: u284 :: u285 :: u286 :: u287 :: u288 :: u289 :: u290 :: u291 :: u292 :: u293 :: u294 :: u295 :: u296 :: u297 :: u298 :: u299 :: u300 :: u301 :: u302 :: u303 :: u304 :: u305 :: u306 :: u307 :: u308 :: u309 :: u310 :: u311 :: u312 :: u313 :: u314 :: u315 :: u316 :: u317 :: u318 :: u319 :: u320 :: u321 :: u322 :: u323 :: u324 :: u325 :: u326 :: u327 :: u328 :: u329 :: u330 :: u331 :: u332 :: u333 :: u334 :: u335 :: u336 :: u337 :: u338 :: u339 :: u340 :: u341 :: u342 :: u343 :: u344 :: u345 :: u346 :: u347 :: u348 :: u349 :: u350 :: u351 :: u352 :: u353 :: u354 :: u355 :: u356 :: u357 :: u358 :: u359 :: u360 :: u361 :: []).toArray, []⟩ wc := by
  conv => arg 2; whnf
  have HP : Hid (Pre W wc n ab ib wb vb bk ck (fun _ _ => false) (sOf s)) := hp
  have HI : Hid (Inp W aD n D aK nK Kf) := hi
  clear hp hi
  go_upto_block 4 with fail
  go_cut [22, 24, 25, 26] (fun f _ _ _ wx => MEnd W n ab ib wb vb bk ck (sOf s) f wx)
  case first =>
    go_wp2
    go_loopw [22, 24, 25, 26, 120] (fun f _ _ _ v wr => MRel W n ab ib wb vb bk ck (sOf s) nK f v wr) (fun _ _ _ _ v _ => nK - (intOf v).toNat)
    case atStart => exact ⟨0, pos, _, Nat.zero_le _, rfl, rfl, HP.out⟩
    case round =>
      obtain ⟨i, far, V, hi, rfl, rfl, hpr⟩ := hrel
      have HPR : Hid (Pre W wr n ab ib wb vb bk ck V (sOf s)) := hpr
      clear hpr HP
      by_cases hlt : i < nK
      · obtain ⟨b, off, rfl, hbl, hcx, hx⟩ := HI.out.marks i hlt
        have cx : wr.cell? ⟨b, off + i, none⟩ = some (.int .u16 (Kf i)) := (HPR.out.below.cell (p := ⟨b, off + i, none⟩) hbl).trans hcx
        obtain ⟨mk, hmk⟩ : ∃ mk, mk = Kf i := ⟨_, rfl⟩
        rw [← hmk] at cx hx
        have ha : mk % 3 < 3 := by omega
        have hp' : mk / 3 % (n + 1) ≤ n := Nat.le_of_lt_succ (Nat.mod_lt (mk / 3) (Nat.succ_pos n))
        have hN : mk / 3 % (n + 1) / 64 * 3 + mk % 3 < (n / 64 + 1) * 3 := idx_lt _ _ _ hp' ha
        have z1 : (mk : Int) / 3 % ((n : Int) + 1) < (n : Int) + 1 := Int.emod_lt_of_pos _ (by omega)
        have z0 : 0 ≤ (mk : Int) / 3 % ((n : Int) + 1) := Int.emod_nonneg _ (by omega)
        have z2 : (mk : Int) / 3 % ((n : Int) + 1) / 64 * 3 + (mk : Int) % 3 < ((n : Int) / 64 + 1) * 3 := by exact_mod_cast hN
        have ct := HPR.out.vis.cellTop ha
        have cb := HPR.out.vis.cell ha hp'
        have cf := HPR.out.vis.free ha (mk / 3 % (n + 1))
        obtain ⟨y1, y2, y3⟩ := pre_mark HPR.out ha hp' hN
        have HY : Hid (Pre W ((wr.setCell ⟨bk (mk % 3), mk / 3 % (n + 1), none⟩ (.bool true)).setCell ⟨wb, mk / 3 % (n + 1) / 64 * 3 + mk % 3, none⟩ (.int .u64 ((wordOf V (mk / 3 % (n + 1) / 64 * 3 + mk % 3) ||| 2 ^ (mk / 3 % (n + 1) % 64) : Nat) : Int))).drew n ab ib wb vb bk ck (mark1 V (mk % 3) (mk / 3 % (n + 1))) (sOf s)) := y3
        have HOB : Hid (bits BinOp.or IntKind.u64 ((wordOf V (mk / 3 % (n + 1) / 64 * 3 + mk % 3) : Nat) : Int) (IntKind.u64.wrap ((2 : Int) ^ (mk / 3 % (n + 1) % 64))) = ((wordOf V (mk / 3 % (n + 1) / 64 * 3 + mk % 3) ||| 2 ^ (mk / 3 % (n + 1) % 64) : Nat) : Int)) := or_bit _ _ (wordOf_lt _ _) (by omega)
        clear hcx hmk y3
        go_wp2
        go_region
        rw [HOB.out]
        by_cases hfar : far < (mk : Int) / 3 % ((n : Int) + 1)
        · have HR : Hid (MRel W n ab ib wb vb bk ck (sOf s) nK (.int .i64 ((mk : Int) / 3 % ((n : Int) + 1))) (.int .i64 ((i : Int) + 1)) ((wr.setCell ⟨bk (mk % 3), mk / 3 % (n + 1), none⟩ (.bool true)).setCell ⟨wb, mk / 3 % (n + 1) / 64 * 3 + mk % 3, none⟩ (.int .u64 ((wordOf V (mk / 3 % (n + 1) / 64 * 3 + mk % 3) ||| 2 ^ (mk / 3 % (n + 1) % 64) : Nat) : Int))).drew) := ⟨i + 1, _, _, by omega, by simp, rfl, HY.out⟩
          go_wp2
          first
            | exact ⟨HR.out, by simp [intOf]; omega⟩
            | (go_roundw
               case rel => first | exact HR.out | ((repeat apply Exists.intro); exact ⟨HR.out, rfl⟩)
               case measure => simp [intOf]; omega)
        · have HR : Hid (MRel W n ab ib wb vb bk ck (sOf s) nK (.int .i64 far) (.int .i64 ((i : Int) + 1)) ((wr.setCell ⟨bk (mk % 3), mk / 3 % (n + 1), none⟩ (.bool true)).setCell ⟨wb, mk / 3 % (n + 1) / 64 * 3 + mk % 3, none⟩ (.int .u64 ((wordOf V (mk / 3 % (n + 1) / 64 * 3 + mk % 3) ||| 2 ^ (mk / 3 % (n + 1) % 64) : Nat) : Int))).drew) := ⟨i + 1, _, _, by omega, by simp, rfl, HY.out⟩
          go_wp2
          first
            | exact ⟨HR.out, by simp [intOf]; omega⟩
            | (go_roundw
               case rel => first | exact HR.out | ((repeat apply Exists.intro); exact ⟨HR.out, rfl⟩)
               case measure => simp [intOf]; omega)
      · have HR : Hid (MEnd W n ab ib wb vb bk ck (sOf s) (.int .i64 far) wr) := ⟨far, V, rfl, HPR.out⟩
        go_wp2
        go_meet
        case rel => exact HR.out
  case rest =>
    obtain ⟨far0, V, rfl, hpr⟩ := hcut
    refine ‹∀ (a : Act) (w : World), Code.wp Ybad.prog _ _ a w → _› _ _ ?_
    exact stC2 W _ V s D aD aK n cD nK Kf pos e ab ac ib ic wb wcap vb vc bk ck far0 _ _ _ _ _ _ _ _ _ _ _ _ _ _ _ _ _ _ _ _ _ _ _ _ _ _ _ _ _ _ _ _ _ _ _ _ _ _ _ _ _ _ _ _ _ _ _ _ _ _ _ _ _ _ _ _ _ _ _ _ _ _ _ _ _ _ _ _ _ _ _ _ _ _ _ _ _ _ _ _ _ _ _ _ _ _ _ _ _ _ _ _ _ _ _ _ _ _ _ _ _ _ _ _ _ _ _ _ _ _ _ _ _ _ _ _ _ _ _ _ _ _ _ _ _ _ _ _ _ _ _ _ _ _ _ _ _ _ _ _ _ _ _ _ _ _ _ _ _ _ _ _ _ _ _ _ _ _ _ _ _ _ _ _ _ _ _ _ _ _ _ _ _ _ _ _ _ _ _ _ _ _ _ _ _ _ _ _ _ _ _ _ _ _ _ _ _ _ _ _ _ _ _ _ _ _ _ _ _ _ _ _ _ _ _ _ _ _ _ _ _ _ _ _ _ _ _ _ _ _ _ _ _ _ _ _ _ _ _ _ _ _ _ _ _ _ _ _ _ _ _ _ _ _ _ _ _ _ _ _ _ _ _ _ _ _ _ _ _ _ _ _ _ _ _ _ _ _ _ _ _ _ _ _ _ _ _ _ _ _ _ _ _ _ _ _ _ _ _ _ _ _ _ _ _ _ _ _ _ _ _ _ _ _ _ _ _ _ _ _ _ _ _ _ _ _ _ _ _ _ _ _ _ _ _ _ _ _ _ _ _ _ _ _ _ _ _ _ _ _ _ _ hpr HI.out hs hpos he hn
end Wlk
end Go.Proofs.YbulkcqiDoor
