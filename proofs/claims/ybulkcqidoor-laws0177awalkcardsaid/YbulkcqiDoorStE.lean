import Derived.Test.YbulkcqiDoorStF
namespace Go.Proofs.YbulkcqiDoor
open Go.RowKit
set_option linter.unusedVariables false
set_option linter.unusedSimpArgs false

namespace Wlk
/-- Between two rounds of the law's own walk. -/
def ERel (V : Nat → Nat → Bool) (pos E : Nat) (wc : World) (l g v : Value) (wr : World) : Prop := ∃ j : Nat, pos + 1 ≤ j ∧ j ≤ E + 1 ∧ v = .int .i64 j ∧ l = .int .i64 E ∧ g = .bool true ∧ (∀ q, pos < q → q < j → V 0 q = false ∧ V 2 q = false) ∧ wr = wc
def EEnd (V : Nat → Nat → Bool) (pos E : Nat) (wc : World) (l g : Value) (wr : World) : Prop := ∃ (last : Nat) (going : Bool), l = .int .i64 last ∧ g = .bool going ∧ Stops V pos E last going ∧ wr = wc

set_option maxRecDepth 100000 in
set_option maxHeartbeats 4000000 in
theorem stE (W wc : World) (M : MC) (V : Nat → Nat → Bool) (S : Nat → Bool) (D : Nat → Nat) (pos E vb vc : Nat) (bk ck : Nat → Nat) (far0 : Int) (u0 u1 u2 u3 u4 u5 u6 u7 u8 u9 u10 u13 u14 u15 u16 u17 u18 u19 u21 u23 u24 u25 u26 u27 u30 u31 u32 u33 u34 u35 u36 u37 u38 u39 u40 u41 u42 u43 u44 u45 u46 u47 u48 u49 u50 u51 u52 u53 u54 u55 u56 u57 u58 u59 u60 u61 u62 u63 u64 u65 u66 u67 u68 u69 u70 u71 u72 u73 u74 u75 u76 u77 u78 u79 u80 u81 u82 u83 u84 u85 u86 u87 u88 u89 u90 u91 u92 u93 u94 u95 u96 u97 u98 u99 u100 u101 u102 u103 u104 u105 u106 u107 u108 u109 u110 u111 u112 u113 u114 u115 u116 u117 u118 u119 u120 u121 u122 u123 u124 u125 u126 u127 u128 u129 u130 u131 u132 u133 u134 u135 u136 u137 u138 u139 u140 u141 u142 u143 u144 u145 u146 u147 u148 u149 u150 u151 u152 u153 u154 u155 u156 u157 u158 u159 u160 u161 u162 u163 u164 u165 u166 u167 u168 u169 u170 u171 u172 u173 u174 u175 u176 u177 u178 u179 u180 u181 u182 u183 u184 u185 u186 u187 u188 u189 u190 u191 u192 u193 u194 u195 u196 u197 u198 u199 u200 u201 u202 u203 u204 u205 u206 u207 u208 u209 u210 u211 u212 u213 u214 u215 u216 u217 u218 u219 u220 u221 u222 u223 u224 u225 u226 u227 u228 u229 u230 u231 u232 u233 u234 u235 u236 u237 u238 u239 u240 u241 u242 u243 u244 u245 u246 u247 u248 u249 u250 u251 u252 u253 u254 u255 u256 u257 u258 u259 u260 u261 u262 u263 u264 u265 u266 u267 u268 u269 u270 u271 u272 u273 u274 u275 u276 u277 u278 u279 u280 u281 u282 u283 u284 u285 u286 u287 u288 u289 u290 u291 u292 u293 u294 u295 u296 u297 u298 u299 u300 u301 u302 u303 u304 u305 u306 u307 u308 u309 u310 u311 u312 u313 u314 u315 u316 u317 u318 u319 u320 u321 u322 u323 u324 u325 u326 u327 u328 u329 u330 u331 u332 u333 u334 u335 u336 u337 u338 u339 u340 u341 u342 u343 u344 u345 u346 u347 u348 u349 u350 u351 u352 u353 u354 u355 u356 u357 u358 u359 u360 u361 : Value)
    (hc : Core W wc M vb bk ck far0 V S D) (hT : Tab 0 W) (hend : EndAt S D pos M.e E) (hpos : pos ≤ M.e) (he : M.e ≤ M.n) (hn : M.n ≤ 1024) :
    Code.wp Ybad.prog (seqTail 21 (Ybad.f3.body.getD .skip)) (bodyPost Ybad.prog Ybad.f3 (LPost W)) ⟨(u0 :: u1 :: u2 :: u3 :: u4 :: u5 :: u6 :: u7 :: u8 :: u9 :: u10 :: (.int .i64 M.n : Value) :: (.int .i64 pos : Value) :: u13 :: u14 :: u15 :: u16 :: u17 :: u18 :: u19 :: (.slice (some ⟨vb, 0, none⟩) 3 vc : Value) :: u21 :: (.int .i64 far0 : Value) :: u23 :: u24 :: u25 :: u26 :: u27 :: (.pointer (some ⟨M.mb, 0, none⟩) : Value) :: (.int .i64 E : Value) :: u30 :: u31 :: u32 :: u33 :: u34 :: u35 :: u36 :: u37 :: u38 :: u39 :: u40 :: u41 :: u42 :: u43 :: u44 :: u45 :: u46 :: u47 :: u48 :: u49 :: u50 :: u51 :: u52 :: u53 :: u54 :: u55 :: u56 :: u57 :: u58 :: u59 :: u60 :: u61 :: u62 :: u63 :: u64 :: u65 :: u66 :: u67 :: u68 :: u69 :: u70 :: u71 :: u72 :: u73 :: u74 :: u75 :: u76 :: u77 :: u78 :: u79 :: u80 :: u81 :: u82 :: u83 :: u84 :: u85 :: u86 :: u87 :: u88 :: u89 :: u90 :: u91 :: u92 :: u93 :: u94 :: u95 :: u96 :: u97 :: u98 :: u99 :: u100 :: u101 :: u102 :: u103 :: u104 :: u105 :: u106 :: u107 :: u108 :: u109 :: u110 :: u111 :: u112 :: u113 :: u114 :: u115 :: u116 :: u117 :: u118 :: u119 :: u120 :: u121 :: u122 :: u123 :: u124 :: u125 :: u126 :: u127 :: u128 :: u129 :: u130 :: u131 :: u132 :: u133 :: u134 :: u135 :: u136 :: u137 :: u138 :: u139 :: u140 :: u141 :: u142 :: u143 :: u144 :: u145 :: u146 :: u147 :: u148 :: u149 :: u150 :: u151 :: u152 :: u153 :: u154 :: u155 :: u156 :: u157 :: u158 :: u159 :: u160 :: u161 :: u162 :: u163 :: u164 :: u165 :: u166 :: u167 :: u168 :: u169 :: u170 :: u171 :: u172 :: u173 :: u174 :: u175 :: u176 :: u177 :: u178 :: u179 :: u180 :: u181 :: u182 :: u183 :: u184 :: u185 :: u186 :: u187 :: u188 :: u189 :: u190 :: u191 :: u192 :: u193 :: u194 :: u195 :: u196 :: u197 :: u198 :: u199 :: u200 :: u201 :: u202 :: u203 :: u204 :: u205 :: u206 :: u207 :: u208 :: u209 :: u210 :: u211 :: u212 :: u213 :: u214 :: u215 :: u216 :: u217 :: u218 :: u219 :: u220 :: u221 :: u222 :: u223 :: u224 :: u225 :: u226 :: u227 :: u228 :: u229 :: u230 :: u231 :: u232 :: u233 :: u234 :: u235 :: u236 :: u237 :: u238 :: u239 :: u240 :: u241 :: u242 :: u243 :: u244 :: u245 :: u246 :: u247 :: u248 :: u249 :: u250 :: u251 :: u252 :: u253 :: u254 :: u255 :: u256 :: u257 :: u258 :: u259 :: u260 :: u261 :: u262 :: u263 :: u264 :: u265 :: u266 :: u267 :: u268 :: u269 :: u270 :: u271 :: u272 :: u273 :: u274 :: u275 :: u276 :: u277 :: u278 :: u279 :: u280 :: u281 :: u282 :: u283 :: u284 :: u285 :: u286 :: u287 :: u288 :: u289 :: u290 :: u291 :: u292 :: u293 :: u294 :: u295 :: u296 :: u297 :: u298 :: u299 :: u300 :: u301 :: u302 :: u303 :: u304 :: u305 :: u306 :: u307 :: u308 :: u309 :: u310 :: u311 :: u312 :: u313 :: u314 :: u315 :: u316 :: u317 :: u318 :: u319 :: u320 :: u321 :: u322 :: u323 :: u324 :: u325 :: u326 :: u327 :: u328 :: u329 :: u330 :: u331 :: u332 :: u333 :: u334 :: u335 :: u336 :: u337 :: u338 :: u339 :: u340 :: u341 :: u342 :: u343 :: u344 :: u345 :: u346 :: u347 :: u348 :: u349 :: u350 :: u351 :: u352 :: u353 :: u354 :: u355 :: u356 :: u357 :: u358 :: u359 :: u360 :: u361 :: []).toArray, []⟩ wc := by
  conv => arg 2; whnf
  have HC : Hid (Core W wc M vb bk ck far0 V S D) := hc
  have HE : Hid (EndAt S D pos M.e E) := hend
  have hpe : pos ≤ E := hend.1
  have hen : E ≤ M.n := by have := hend.2.1; omega
  have hv := hc.vis
  have HV : Hid (VisAt wc W.heap.size vb M.n bk ck V) := hv
  have ct2 := hv.cellTop (k := 2) (by decide)
  have ct0 := hv.cellTop (k := 0) (by decide)
  have cp := hv.cell (k := 2) (p := pos) (by decide) (by omega)
  clear hc hend hv
  go_upto_if 194 with fail
  go_cut [30, 31, 32] (fun l g _ wx => EEnd V pos E wc l g wx)
  case first =>
    by_cases h2 : V 2 pos = true
    · have R : EEnd V pos E wc (.int .i64 pos) (.bool false) wc := ⟨pos, false, rfl, rfl, ⟨Nat.le_refl _, hpe, fun q x y => by omega, fun q x y => by omega, .inr ⟨rfl, .inl h2⟩⟩, rfl⟩
      rw [h2]
      go_wp2
      go_meet
      case rel => exact R
    · have h2' : V 2 pos = false := by simpa using h2
      have H2 : Hid (V 2 pos = false) := h2'
      rw [h2']
      clear h2 h2' cp
      go_wp2
      go_loopw [30, 31, 32] (fun l g v wr => ERel V pos E wc l g v wr) (fun _ _ v _ => E + 1 - (intOf v).toNat)
      case atStart => exact ⟨pos + 1, Nat.le_refl _, by omega, by simp, rfl, rfl, fun q x y => by omega, rfl⟩
      case round =>
        obtain ⟨j, hj1, hj2, rfl, rfl, rfl, hall, rfl⟩ := hrel
        have HA : Hid (∀ q, pos < q → q < j → V 0 q = false ∧ V 2 q = false) := hall
        clear hall
        have HW2 : Hid (∀ q, pos ≤ q → q < j → V 2 q = false) := fun q x y => by
          by_cases e : q = pos
          · rw [e]; exact H2.out
          · exact (HA.out q (by omega) y).2
        by_cases hlt : j ≤ E
        · have c0 := HV.out.cell (k := 0) (p := j) (by decide) (by omega)
          have c2 := HV.out.cell (k := 2) (p := j) (by decide) (by omega)
          by_cases k0 : V 0 j = true
          · rw [k0] at c0
            have HR : Hid (EEnd V pos E wr (.int .i64 ((j : Int) - 1)) (.bool false) wr) := ⟨j - 1, false, by rw [show ((j : Int) - 1) = ((j - 1 : Nat) : Int) by omega], rfl, ⟨by omega, by omega, fun q x y => HW2.out q x (by omega), fun q x y => (HA.out q x (by omega)).1, .inr ⟨rfl, .inr ⟨HW2.out _ (by omega) (by omega), by omega, by rw [show j - 1 + 1 = j by omega]; exact k0⟩⟩⟩, rfl⟩
            have K0 : Hid (V 0 j = true) := k0
            clear k0
            go_wp2
            go_meet
            case rel => exact HR.out
          · have k0' : V 0 j = false := by simpa using k0
            rw [k0'] at c0
            have K0 : Hid (V 0 j = false) := k0'
            clear k0 k0'
            by_cases k2 : V 2 j = true
            · rw [k2] at c2
              have HR : Hid (EEnd V pos E wr (.int .i64 (j : Int)) (.bool false) wr) := ⟨j, false, rfl, rfl, ⟨by omega, by omega, fun q x y => HW2.out q x (by omega), fun q x y => by
                by_cases e : q = j
                · rw [e]; exact K0.out
                · exact (HA.out q x (by omega)).1, .inr ⟨rfl, .inl k2⟩⟩, rfl⟩
              clear k2
              go_wp2
              go_meet
              case rel => exact HR.out
            · have k2' : V 2 j = false := by simpa using k2
              rw [k2'] at c2
              have HR : Hid (ERel V pos E wr (.int .i64 (E : Int)) (.bool true) (.int .i64 ((j : Int) + 1)) wr) := ⟨j + 1, by omega, by omega, by simp, rfl, rfl, fun q x y => by
                by_cases e : q = j
                · rw [e]; exact ⟨K0.out, k2'⟩
                · exact HA.out q x (by omega), rfl⟩
              clear k2 k2'
              go_wp2
              first
                | exact ⟨HR.out, by simp [intOf]; omega⟩
                | (go_roundw
                   case rel => first | exact HR.out | ((repeat apply Exists.intro); exact ⟨HR.out, rfl⟩)
                   case measure => simp [intOf]; omega)
        · have HR : Hid (EEnd V pos E wr (.int .i64 (E : Int)) (.bool true) wr) := ⟨E, true, rfl, rfl, ⟨hpe, Nat.le_refl _, fun q x y => HW2.out q x (by omega), fun q x y => (HA.out q x (by omega)).1, .inl ⟨rfl, rfl, HW2.out _ hpe (by omega)⟩⟩, rfl⟩
          go_wp2
          go_meet
          case rel => exact HR.out
  case rest =>
    obtain ⟨last, going, rfl, rfl, hst, rfl⟩ := hcut
    refine ‹∀ (a : Act) (w : World), Code.wp Ybad.prog _ _ a w → _› _ _ ?_
    exact stF W _ M V S D pos last E vb vc bk ck far0 going _ _ _ _ _ _ _ _ _ _ _ _ _ _ _ _ _ _ _ _ _ _ _ _ _ _ _ _ _ _ _ _ _ _ _ _ _ _ _ _ _ _ _ _ _ _ _ _ _ _ _ _ _ _ _ _ _ _ _ _ _ _ _ _ _ _ _ _ _ _ _ _ _ _ _ _ _ _ _ _ _ _ _ _ _ _ _ _ _ _ _ _ _ _ _ _ _ _ _ _ _ _ _ _ _ _ _ _ _ _ _ _ _ _ _ _ _ _ _ _ _ _ _ _ _ _ _ _ _ _ _ _ _ _ _ _ _ _ _ _ _ _ _ _ _ _ _ _ _ _ _ _ _ _ _ _ _ _ _ _ _ _ _ _ _ _ _ _ _ _ _ _ _ _ _ _ _ _ _ _ _ _ _ _ _ _ _ _ _ _ _ _ _ _ _ _ _ _ _ _ _ _ _ _ _ _ _ _ _ _ _ _ _ _ _ _ _ _ _ _ _ _ _ _ _ _ _ _ _ _ _ _ _ _ _ _ _ _ _ _ _ _ _ _ _ _ _ _ _ _ _ _ _ _ _ _ _ _ _ _ _ _ _ _ _ _ _ _ _ _ _ _ _ _ _ _ _ _ _ _ _ _ _ _ _ _ _ _ _ _ _ _ _ _ _ _ _ _ _ _ _ _ _ _ _ _ _ _ _ _ _ _ _ _ _ _ _ _ _ _ _ _ _ _ _ _ _ _ _ _ _ _ _ _ _ _ _ _ _ _ _ _ _ _ _ _ _ _ _ _ _ _ _ _ _ HC.out hT HE.out hst hpos he hn
end Wlk
end Go.Proofs.YbulkcqiDoor
