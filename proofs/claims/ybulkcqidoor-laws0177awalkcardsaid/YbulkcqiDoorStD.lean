import Derived.Test.YbulkcqiDoorStE
namespace Go.Proofs.YbulkcqiDoor
open Go.RowKit
set_option linter.unusedVariables false
set_option linter.unusedSimpArgs false

namespace Wlk
/-- Between two rounds of the law's own search for the end. -/
def DRel (s : ByteArray) (D : Nat → Nat) (pos e : Nat) (wc : World) (v : Value) (wr : World) : Prop := ∃ i : Nat, pos ≤ i ∧ i ≤ e ∧ v = .int .i64 i ∧ (∀ q, pos ≤ q → q < i → Tk (sOf s) D q) ∧ wr = wc
def DEnd (s : ByteArray) (D : Nat → Nat) (pos e : Nat) (wc : World) (v : Value) (wr : World) : Prop := ∃ E : Nat, v = .int .i64 E ∧ EndAt (sOf s) D pos e E ∧ wr = wc

set_option maxRecDepth 100000 in
set_option maxHeartbeats 4000000 in
theorem stD (W wc : World) (M : MC) (V : Nat → Nat → Bool) (s : ByteArray) (D : Nat → Nat) (aD aK : Option Addr) (cD nK : Nat) (Kf : Nat → Nat) (pos vb vc : Nat) (bk ck : Nat → Nat) (far0 : Int) (u2 u3 u4 u5 u6 u7 u8 u9 u10 u14 u15 u16 u17 u18 u19 u21 u23 u24 u25 u26 u27 u29 u30 u31 u32 u33 u34 u35 u36 u37 u38 u39 u40 u41 u42 u43 u44 u45 u46 u47 u48 u49 u50 u51 u52 u53 u54 u55 u56 u57 u58 u59 u60 u61 u62 u63 u64 u65 u66 u67 u68 u69 u70 u71 u72 u73 u74 u75 u76 u77 u78 u79 u80 u81 u82 u83 u84 u85 u86 u87 u88 u89 u90 u91 u92 u93 u94 u95 u96 u97 u98 u99 u100 u101 u102 u103 u104 u105 u106 u107 u108 u109 u110 u111 u112 u113 u114 u115 u116 u117 u118 u119 u120 u121 u122 u123 u124 u125 u126 u127 u128 u129 u130 u131 u132 u133 u134 u135 u136 u137 u138 u139 u140 u141 u142 u143 u144 u145 u146 u147 u148 u149 u150 u151 u152 u153 u154 u155 u156 u157 u158 u159 u160 u161 u162 u163 u164 u165 u166 u167 u168 u169 u170 u171 u172 u173 u174 u175 u176 u177 u178 u179 u180 u181 u182 u183 u184 u185 u186 u187 u188 u189 u190 u191 u192 u193 u194 u195 u196 u197 u198 u199 u200 u201 u202 u203 u204 u205 u206 u207 u208 u209 u210 u211 u212 u213 u214 u215 u216 u217 u218 u219 u220 u221 u222 u223 u224 u225 u226 u227 u228 u229 u230 u231 u232 u233 u234 u235 u236 u237 u238 u239 u240 u241 u242 u243 u244 u245 u246 u247 u248 u249 u250 u251 u252 u253 u254 u255 u256 u257 u258 u259 u260 u261 u262 u263 u264 u265 u266 u267 u268 u269 u270 u271 u272 u273 u274 u275 u276 u277 u278 u279 u280 u281 u282 u283 u284 u285 u286 u287 u288 u289 u290 u291 u292 u293 u294 u295 u296 u297 u298 u299 u300 u301 u302 u303 u304 u305 u306 u307 u308 u309 u310 u311 u312 u313 u314 u315 u316 u317 u318 u319 u320 u321 u322 u323 u324 u325 u326 u327 u328 u329 u330 u331 u332 u333 u334 u335 u336 u337 u338 u339 u340 u341 u342 u343 u344 u345 u346 u347 u348 u349 u350 u351 u352 u353 u354 u355 u356 u357 u358 u359 u360 u361 : Value)
    (hc : Core W wc M vb bk ck far0 V (sOf s) D) (hi : Inp W aD M.n D aK nK Kf) (hs : s.size ≤ 1024) (hpos : pos ≤ M.e) (he : M.e ≤ M.n) (hn : M.n ≤ 1024) :
    Code.wp Ybad.prog (seqTail 19 (Ybad.f3.body.getD .skip)) (bodyPost Ybad.prog Ybad.f3 (LPost W)) ⟨((.slice aD M.n cD : Value) :: (.string s : Value) :: u2 :: u3 :: u4 :: u5 :: u6 :: u7 :: u8 :: u9 :: u10 :: (.int .i64 M.n : Value) :: (.int .i64 pos : Value) :: (.int .i64 M.e : Value) :: u14 :: u15 :: u16 :: u17 :: u18 :: u19 :: (.slice (some ⟨vb, 0, none⟩) 3 vc : Value) :: u21 :: (.int .i64 far0 : Value) :: u23 :: u24 :: u25 :: u26 :: u27 :: (.pointer (some ⟨M.mb, 0, none⟩) : Value) :: u29 :: u30 :: u31 :: u32 :: u33 :: u34 :: u35 :: u36 :: u37 :: u38 :: u39 :: u40 :: u41 :: u42 :: u43 :: u44 :: u45 :: u46 :: u47 :: u48 :: u49 :: u50 :: u51 :: u52 :: u53 :: u54 :: u55 :: u56 :: u57 :: u58 :: u59 :: u60 :: u61 :: u62 :: u63 :: u64 :: u65 :: u66 :: u67 :: u68 :: u69 :: u70 :: u71 :: u72 :: u73 :: u74 :: u75 :: u76 :: u77 :: u78 :: u79 :: u80 :: u81 :: u82 :: u83 :: u84 :: u85 :: u86 :: u87 :: u88 :: u89 :: u90 :: u91 :: u92 :: u93 :: u94 :: u95 :: u96 :: u97 :: u98 :: u99 :: u100 :: u101 :: u102 :: u103 :: u104 :: u105 :: u106 :: u107 :: u108 :: u109 :: u110 :: u111 :: u112 :: u113 :: u114 :: u115 :: u116 :: u117 :: u118 :: u119 :: u120 :: u121 :: u122 :: u123 :: u124 :: u125 :: u126 :: u127 :: u128 :: u129 :: u130 :: u131 :: u132 :: u133 :: u134 :: u135 :: u136 :: u137 :: u138 :: u139 :: u140 :: u141 :: u142 :: u143 :: u144 :: u145 :: u146 :: u147 :: u148 :: u149 :: u150 :: u151 :: u152 :: u153 :: u154 :: u155 :: u156 :: u157 :: u158 :: u159 :: u160 :: u161 :: u162 :: u163 :: u164 :: u165 :: u166 :: u167 :: u168 :: u169 :: u170 :: u171 :: u172 :: u173 :: u174 :: u175 :: u176 :: u177 :: u178 :: u179 :: u180 :: u181 :: u182 :: u183 :: u184 :: u185 :: u186 :: u187 :: u188 :: u189 :: u190 :: u191 :: u192 :: u193 :: u194 :: u195 :: u196 :: u197 :: u198 :: u199 :: u200 :: u201 :: u202 :: u203 :: u204 :: u205 :: u206 :: u207 :: u208 :: u209 :: u210 :: u211 :: u212 :: u213 :: u214 :: u215 :: u216 :: u217 :: u218 :: u219 :: u220 :: u221 :: u222 :: u223 :: u224 :: u225 :: u226 :: u227 :: u228 :: u229 :: u230 :: u231 :: u232 :: u233 :: u234 :: u235 :: u236 :: u237 :: u238 :: u239 :: u240 :: u241 :: u242 :: u243 :: u244 :: u245 :: u246 :: u247 :: u248 :: u249 :: u250 :: u251 :: u252 :: u253 :: u254 :: u255 :: u256 :: u257 :: u258 :: u259 :: u260 :: u261 :: u262 :: u263 :: u264 :: u265 :: u266 :: u267 :: u268 :: u269 :: u270 :: u271 :: u272 :: u273 :: u274 :: u275 :: u276 :: u277 :: u278 :: u279 :: u280 :: u281 :: u282 :: u283 :: u284 :: u285 :: u286 :: u287 :: u288 :: u289 :: u290 :: u291 :: u292 :: u293 :: u294 :: u295 :: u296 :: u297 :: u298 :: u299 :: u300 :: u301 :: u302 :: u303 :: u304 :: u305 :: u306 :: u307 :: u308 :: u309 :: u310 :: u311 :: u312 :: u313 :: u314 :: u315 :: u316 :: u317 :: u318 :: u319 :: u320 :: u321 :: u322 :: u323 :: u324 :: u325 :: u326 :: u327 :: u328 :: u329 :: u330 :: u331 :: u332 :: u333 :: u334 :: u335 :: u336 :: u337 :: u338 :: u339 :: u340 :: u341 :: u342 :: u343 :: u344 :: u345 :: u346 :: u347 :: u348 :: u349 :: u350 :: u351 :: u352 :: u353 :: u354 :: u355 :: u356 :: u357 :: u358 :: u359 :: u360 :: u361 :: []).toArray, []⟩ wc := by
  conv => arg 2; whnf
  have HC : Hid (Core W wc M vb bk ck far0 V (sOf s) D) := hc
  have HI : Hid (Inp W aD M.n D aK nK Kf) := hi
  clear hc hi
  go_upto_block 6 with fail
  go_cut [29] (fun v wx => DEnd s D pos M.e wc v wx)
  case first =>
    go_wp2
    go_loopw [29] (fun v wr => DRel s D pos M.e wc v wr) (fun v _ => M.e - (intOf v).toNat)
    case atStart => exact ⟨pos, Nat.le_refl _, hpos, rfl, fun q x y => by omega, rfl⟩
    case round =>
      obtain ⟨i, hi1, hi2, rfl, hall, rfl⟩ := hrel
      have HA : Hid (∀ q, pos ≤ q → q < i → Tk (sOf s) D q) := hall
      clear hall
      by_cases hlt : i < M.e
      · obtain ⟨b, off, rfl, hbl, hcx, hx⟩ := HI.out.data i (by omega)
        have cx : wr.cell? ⟨b, off + i, none⟩ = some (.int .u8 (D i)) := (HC.out.below.cell (p := ⟨b, off + i, none⟩) hbl).trans hcx
        clear hcx
        by_cases hin : InS s (D i : Int)
        · have HN : Hid (InS s (D i : Int)) := hin
          clear hin
          have HR : Hid (DRel s D pos M.e wr (.int .i64 ((i : Int) + 1)) wr) := ⟨i + 1, by omega, by omega, by simp, fun q x y => by
            by_cases e : q = i
            · rw [e]; exact (tk_iff s D i).2 HN.out
            · exact HA.out q x (by omega), rfl⟩
          go_wp2_with (go_at_call 4; refine (in_any s _ _ hs).mono ?_; rintro e w' ⟨b', rfl, hb', rfl⟩; (obtain rfl : b' = true := hb'.2 HN.out); clear hb')
          first
            | exact ⟨HR.out, by simp [intOf]; omega⟩
            | (go_roundw
               case rel => first | exact HR.out | ((repeat apply Exists.intro); exact ⟨HR.out, rfl⟩)
               case measure => simp [intOf]; omega)
        · have HN : Hid (¬ InS s (D i : Int)) := hin
          clear hin
          have HR : Hid (DEnd s D pos M.e wr (.int .i64 (i : Int)) wr) := ⟨i, rfl, ⟨hi1, hi2, HA.out, .inr (fun h => HN.out ((tk_iff s D i).1 h))⟩, rfl⟩
          go_wp2_with (go_at_call 4; refine (in_any s _ _ hs).mono ?_; rintro e w' ⟨b', rfl, hb', rfl⟩; (obtain rfl : b' = false := by (cases b' with | false => rfl | true => exact absurd (hb'.1 rfl) HN.out)); clear hb')
          go_meet
          case rel => exact HR.out
      · have HR : Hid (DEnd s D pos M.e wr (.int .i64 (i : Int)) wr) := ⟨i, rfl, ⟨hi1, hi2, HA.out, .inl (by omega)⟩, rfl⟩
        go_wp2
        go_meet
        case rel => exact HR.out
  case rest =>
    obtain ⟨E, rfl, hend, rfl⟩ := hcut
    refine ‹∀ (a : Act) (w : World), Code.wp Ybad.prog _ _ a w → _› _ _ ?_
    exact stE W _ M V (sOf s) D pos E vb vc bk ck far0 _ _ _ _ _ _ _ _ _ _ _ _ _ _ _ _ _ _ _ _ _ _ _ _ _ _ _ _ _ _ _ _ _ _ _ _ _ _ _ _ _ _ _ _ _ _ _ _ _ _ _ _ _ _ _ _ _ _ _ _ _ _ _ _ _ _ _ _ _ _ _ _ _ _ _ _ _ _ _ _ _ _ _ _ _ _ _ _ _ _ _ _ _ _ _ _ _ _ _ _ _ _ _ _ _ _ _ _ _ _ _ _ _ _ _ _ _ _ _ _ _ _ _ _ _ _ _ _ _ _ _ _ _ _ _ _ _ _ _ _ _ _ _ _ _ _ _ _ _ _ _ _ _ _ _ _ _ _ _ _ _ _ _ _ _ _ _ _ _ _ _ _ _ _ _ _ _ _ _ _ _ _ _ _ _ _ _ _ _ _ _ _ _ _ _ _ _ _ _ _ _ _ _ _ _ _ _ _ _ _ _ _ _ _ _ _ _ _ _ _ _ _ _ _ _ _ _ _ _ _ _ _ _ _ _ _ _ _ _ _ _ _ _ _ _ _ _ _ _ _ _ _ _ _ _ _ _ _ _ _ _ _ _ _ _ _ _ _ _ _ _ _ _ _ _ _ _ _ _ _ _ _ _ _ _ _ _ _ _ _ _ _ _ _ _ _ _ _ _ _ _ _ _ _ _ _ _ _ _ _ _ _ _ _ _ _ _ _ _ _ _ _ _ _ _ _ _ _ _ _ _ _ _ _ _ _ _ _ _ _ _ _ _ _ _ _ _ _ _ _ _ _ _ _ _ _ HC.out HI.out.tab hend hpos he hn
end Wlk
end Go.Proofs.YbulkcqiDoor
