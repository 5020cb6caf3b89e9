import Derived.Test.YbulkcqiDoorStH
namespace Go.Proofs.YbulkcqiDoor
open Go.RowKit
set_option linter.unusedVariables false
set_option linter.unusedSimpArgs false

namespace Wlk
theorem markR_succ (V : Nat → Nat → Bool) (a lo j : Nat) (h : lo ≤ j) (x q : Nat) : markR V a lo (j + 1) x q = (markR V a lo j x q || (x == a && q == j)) := by
  unfold markR
  rw [Bool.or_assoc]
  congr 1
  by_cases h1 : q = j
  · subst h1; simp [h]
  · have e : (q < j + 1) = (q < j) := by apply propext; omega
    have hq : (q == j) = false := by rw [beq_eq_false_iff_ne]; exact h1
    simp [hq, e]
theorem markR_self (V : Nat → Nat → Bool) (a lo : Nat) : markR V a lo lo = V := by
  funext x q
  unfold markR
  by_cases h : lo ≤ q
  · have h2 : ¬ q < lo := by omega
    simp [h2]
  · simp [h]
theorem markR_in (V : Nat → Nat → Bool) (a lo hi n : Nat) (h : ∀ k p, n < p → V k p = false) (hh : hi ≤ n + 1) : ∀ k p, n < p → markR V a lo hi k p = false := by
  intro k p hp
  have h2 : ¬ p < hi := by omega
  unfold markR
  rw [h k p hp]
  simp [h2]
/-- Between two rounds of a marking loop. -/
def GRel (W wc : World) (vb n : Nat) (bk ck : Nat → Nat) (V : Nat → Nat → Bool) (a lo h : Nat) (v : Value) (wr : World) : Prop := ∃ j : Nat, lo ≤ j ∧ (j ≤ lo ∨ j ≤ h) ∧ v = .int .i64 j ∧ VisAt wr W.heap.size vb n bk ck (markR V a lo j) ∧ Kp [4] wc wr ∧ Below W.heap.size W wr

set_option maxRecDepth 100000 in
set_option maxHeartbeats 4000000 in
theorem stG2 (W wc : World) (M : MC) (V : Nat → Nat → Bool) (pos last h sb sc vb vc : Nat) (bk ck : Nat → Nat) (far0 : Int) (u0 u1 u2 u3 u4 u5 u6 u7 u8 u9 u10 u13 u14 u15 u16 u17 u18 u19 u21 u23 u24 u25 u26 u27 u29 u31 u32 u33 u34 u35 u37 u38 u39 u40 u41 u42 u43 u44 u45 u46 u47 u48 u49 u50 u51 u52 u53 u54 u55 u56 u57 u58 u59 u60 u61 u62 u63 u64 u65 u66 u67 u68 u69 u70 u71 u72 u73 u74 u75 u76 u77 u78 u79 u80 u81 u82 u83 u84 u85 u86 u87 u88 u89 u90 u91 u92 u93 u94 u95 u96 u97 u98 u99 u100 u101 u102 u103 u104 u105 u106 u107 u108 u109 u110 u111 u112 u113 u114 u115 u116 u117 u118 u119 u120 u121 u122 u123 u124 u125 u126 u127 u128 u129 u130 u131 u132 u133 u134 u135 u136 u137 u138 u139 u140 u141 u142 u143 u144 u145 u146 u147 u148 u149 u150 u151 u152 u153 u154 u155 u156 u157 u158 u159 u160 u161 u162 u163 u164 u165 u166 u167 u168 u169 u170 u171 u172 u173 u174 u175 u176 u177 u178 u179 u180 u181 u182 u183 u184 u185 u186 u187 u188 u189 u190 u191 u192 u193 u194 u195 u196 u197 u198 u199 u200 u201 u202 u203 u204 u205 u206 u207 u208 u209 u210 u211 u212 u213 u214 u215 u216 u217 u218 u219 u220 u221 u222 u223 u224 u225 u226 u227 u228 u229 u230 u231 u232 u233 u234 u235 u236 u237 u238 u239 u240 u241 u242 u243 u244 u245 u246 u247 u248 u249 u250 u251 u252 u253 u254 u255 u256 u257 u258 u259 u260 u261 u262 u263 u264 u265 u266 u267 u268 u269 u270 u271 u272 u273 u274 u275 u276 u277 u278 u279 u280 u281 u282 u283 u284 u285 u286 u287 u288 u289 u290 u291 u292 u293 u294 u295 u296 u297 u298 u299 u300 u301 u302 u303 u304 u305 u306 u307 u308 u309 u310 u311 u312 u313 u314 u315 u316 u317 u318 u319 u320 u321 u322 u323 u324 u325 u326 u327 u328 u329 u330 u331 u332 u333 u334 u335 u336 u337 u338 u339 u340 u341 u342 u343 u344 u345 u346 u347 u348 u349 u350 u351 u352 u353 u354 u355 u356 u357 u358 u359 u360 u361 : Value)
    (hm : MatAt wc M (if far0 < last then (last : Int) else far0) (.slice (some ⟨sb, 0, none⟩) 1 sc) (markR (markR V 0 (pos + 1) (last + 1)) 2 pos h)) (hv : VisAt wc W.heap.size vb M.n bk ck (markR V 0 (pos + 1) (last + 1))) (hs : ∃ arr, Blk wc sb arr 54 ∧ arr[0]? = some (.int .u32 1) ∧ arr[1]? = some (.bool false) ∧ arr[2]? = some (.int .i64 pos) ∧ arr[3]? = some (.int .i64 last)) (hb : Below W.heap.size W wc) (hins : ∀ k p, M.n < p → V k p = false) (hn : M.n ≤ 1024) (hpl : pos ≤ last) (hle : last ≤ M.n) (hh : h ≤ last + 1) :
    Code.wp Ybad.prog (seqTail 28 (Ybad.f3.body.getD .skip)) (bodyPost Ybad.prog Ybad.f3 (LPost W)) ⟨(u0 :: u1 :: u2 :: u3 :: u4 :: u5 :: u6 :: u7 :: u8 :: u9 :: u10 :: (.int .i64 M.n : Value) :: (.int .i64 pos : Value) :: u13 :: u14 :: u15 :: u16 :: u17 :: u18 :: u19 :: (.slice (some ⟨vb, 0, none⟩) 3 vc : Value) :: u21 :: (.int .i64 far0 : Value) :: u23 :: u24 :: u25 :: u26 :: u27 :: (.pointer (some ⟨M.mb, 0, none⟩) : Value) :: u29 :: (.int .i64 last : Value) :: u31 :: u32 :: u33 :: u34 :: u35 :: (.int .i64 ((h : Int) - 1) : Value) :: u37 :: u38 :: u39 :: u40 :: u41 :: u42 :: u43 :: u44 :: u45 :: u46 :: u47 :: u48 :: u49 :: u50 :: u51 :: u52 :: u53 :: u54 :: u55 :: u56 :: u57 :: u58 :: u59 :: u60 :: u61 :: u62 :: u63 :: u64 :: u65 :: u66 :: u67 :: u68 :: u69 :: u70 :: u71 :: u72 :: u73 :: u74 :: u75 :: u76 :: u77 :: u78 :: u79 :: u80 :: u81 :: u82 :: u83 :: u84 :: u85 :: u86 :: u87 :: u88 :: u89 :: u90 :: u91 :: u92 :: u93 :: u94 :: u95 :: u96 :: u97 :: u98 :: u99 :: u100 :: u101 :: u102 :: u103 :: u104 :: u105 :: u106 :: u107 :: u108 :: u109 :: u110 :: u111 :: u112 :: u113 :: u114 :: u115 :: u116 :: u117 :: u118 :: u119 :: u120 :: u121 :: u122 :: u123 :: u124 :: u125 :: u126 :: u127 :: u128 :: u129 :: u130 :: u131 :: u132 :: u133 :: u134 :: u135 :: u136 :: u137 :: u138 :: u139 :: u140 :: u141 :: u142 :: u143 :: u144 :: u145 :: u146 :: u147 :: u148 :: u149 :: u150 :: u151 :: u152 :: u153 :: u154 :: u155 :: u156 :: u157 :: u158 :: u159 :: u160 :: u161 :: u162 :: u163 :: u164 :: u165 :: u166 :: u167 :: u168 :: u169 :: u170 :: u171 :: u172 :: u173 :: u174 :: u175 :: u176 :: u177 :: u178 :: u179 :: u180 :: u181 :: u182 :: u183 :: u184 :: u185 :: u186 :: u187 :: u188 :: u189 :: u190 :: u191 :: u192 :: u193 :: u194 :: u195 :: u196 :: u197 :: u198 :: u199 :: u200 :: u201 :: u202 :: u203 :: u204 :: u205 :: u206 :: u207 :: u208 :: u209 :: u210 :: u211 :: u212 :: u213 :: u214 :: u215 :: u216 :: u217 :: u218 :: u219 :: u220 :: u221 :: u222 :: u223 :: u224 :: u225 :: u226 :: u227 :: u228 :: u229 :: u230 :: u231 :: u232 :: u233 :: u234 :: u235 :: u236 :: u237 :: u238 :: u239 :: u240 :: u241 :: u242 :: u243 :: u244 :: u245 :: u246 :: u247 :: u248 :: u249 :: u250 :: u251 :: u252 :: u253 :: u254 :: u255 :: u256 :: u257 :: u258 :: u259 :: u260 :: u261 :: u262 :: u263 :: u264 :: u265 :: u266 :: u267 :: u268 :: u269 :: u270 :: u271 :: u272 :: u273 :: u274 :: u275 :: u276 :: u277 :: u278 :: u279 :: u280 :: u281 :: u282 :: u283 :: u284 :: u285 :: u286 :: u287 :: u288 :: u289 :: u290 :: u291 :: u292 :: u293 :: u294 :: u295 :: u296 :: u297 :: u298 :: u299 :: u300 :: u301 :: u302 :: u303 :: u304 :: u305 :: u306 :: u307 :: u308 :: u309 :: u310 :: u311 :: u312 :: u313 :: u314 :: u315 :: u316 :: u317 :: u318 :: u319 :: u320 :: u321 :: u322 :: u323 :: u324 :: u325 :: u326 :: u327 :: u328 :: u329 :: u330 :: u331 :: u332 :: u333 :: u334 :: u335 :: u336 :: u337 :: u338 :: u339 :: u340 :: u341 :: u342 :: u343 :: u344 :: u345 :: u346 :: u347 :: u348 :: u349 :: u350 :: u351 :: u352 :: u353 :: u354 :: u355 :: u356 :: u357 :: u358 :: u359 :: u360 :: u361 :: []).toArray, []⟩ wc := by
  conv => arg 2; whnf
  have HM : Hid (MatAt wc M (if far0 < last then (last : Int) else far0) (.slice (some ⟨sb, 0, none⟩) 1 sc) (markR (markR V 0 (pos + 1) (last + 1)) 2 pos h)) := hm
  have HV : Hid (VisAt wc W.heap.size vb M.n bk ck (markR V 0 (pos + 1) (last + 1))) := hv
  have HB : Hid (Below W.heap.size W wc) := hb
  have hbs : W.heap.size ≤ wc.heap.size := hb.size
  have HS : Hid (∃ arr, Blk wc sb arr 54 ∧ arr[0]? = some (.int .u32 1) ∧ arr[1]? = some (.bool false) ∧ arr[2]? = some (.int .i64 pos) ∧ arr[3]? = some (.int .i64 last)) := hs
  have HI : Hid (∀ k p, M.n < p → V k p = false) := hins
  clear hm hv hb hs hins
  go_upto_block 12 with fail
  go_cut [37] (fun v wx => VisAt wx W.heap.size vb M.n bk ck (markR (markR V 0 (pos + 1) (last + 1)) 2 pos h) ∧ Kp [4] wc wx ∧ Below W.heap.size W wx)
  case first =>
    go_wp2
    go_loopw [37] (fun v wr => GRel W wc vb M.n bk ck (markR V 0 (pos + 1) (last + 1)) 2 pos h v wr) (fun v _ => M.n + 2 - (intOf v).toNat)
    case atStart => exact ⟨pos, Nat.le_refl _, .inl (Nat.le_refl _), rfl, by rw [markR_self]; exact HV.out, Kp.refl _ _, HB.out⟩
    case round =>
      obtain ⟨j, hj1, hj2, rfl, hvr, hkr, hbr⟩ := hrel
      by_cases hlt : (j : Int) ≤ (h : Int) - 1
      · have ct := hvr.cellTop (k := 2) (by decide)
        have cb := hvr.cell (k := 2) (p := j) (by decide) (by omega)
        have cf := hvr.free (k := 2) (by decide) j
        have HR : Hid (GRel W wc vb M.n bk ck (markR V 0 (pos + 1) (last + 1)) 2 pos h (.int .i64 ((j : Int) + 1)) (wr.setCell ⟨bk 2, j, none⟩ (.bool true))) :=
          ⟨j + 1, by omega, .inr (by omega), by simp, hvr.mark (by decide) (by omega) (markR_succ _ _ _ _ hj1), hvr.kpr (by decide) hkr (by decide) _ _, hbr.setCell (by exact hvr.ge 2 (by decide)) _⟩
        clear hvr hkr hbr
        go_wp2
        first
          | exact ⟨HR.out, by simp [intOf]; omega⟩
          | (go_roundw
             case rel => first | exact HR.out | ((repeat apply Exists.intro); exact ⟨HR.out, rfl⟩)
             case measure => simp [intOf]; omega)
      · have HE : Hid (VisAt wr W.heap.size vb M.n bk ck (markR (markR V 0 (pos + 1) (last + 1)) 2 pos h) ∧ Kp [4] wc wr ∧ Below W.heap.size W wr) := ⟨hvr.congr (markR_eq _ _ _ _ _ (by omega)), hkr, hbr⟩
        clear hvr hkr hbr
        go_wp2
        go_meet
        case rel => exact HE.out
  case rest =>
    obtain ⟨hv2, hk2, hb2⟩ := hcut
    refine ‹∀ (a : Act) (w : World), Code.wp Ybad.prog _ _ a w → _› _ _ ?_
    exact stH W _ M _ pos last sb sc vb vc bk ck far0 _ _ _ _ _ _ _ _ _ _ _ _ _ _ _ _ _ _ _ _ _ _ _ _ _ _ _ _ _ _ _ _ _ _ _ _ _ _ _ _ _ _ _ _ _ _ _ _ _ _ _ _ _ _ _ _ _ _ _ _ _ _ _ _ _ _ _ _ _ _ _ _ _ _ _ _ _ _ _ _ _ _ _ _ _ _ _ _ _ _ _ _ _ _ _ _ _ _ _ _ _ _ _ _ _ _ _ _ _ _ _ _ _ _ _ _ _ _ _ _ _ _ _ _ _ _ _ _ _ _ _ _ _ _ _ _ _ _ _ _ _ _ _ _ _ _ _ _ _ _ _ _ _ _ _ _ _ _ _ _ _ _ _ _ _ _ _ _ _ _ _ _ _ _ _ _ _ _ _ _ _ _ _ _ _ _ _ _ _ _ _ _ _ _ _ _ _ _ _ _ _ _ _ _ _ _ _ _ _ _ _ _ _ _ _ _ _ _ _ _ _ _ _ _ _ _ _ _ _ _ _ _ _ _ _ _ _ _ _ _ _ _ _ _ _ _ _ _ _ _ _ _ _ _ _ _ _ _ _ _ _ _ _ _ _ _ _ _ _ _ _ _ _ _ _ _ _ _ _ _ _ _ _ _ _ _ _ _ _ _ _ _ _ _ _ _ _ _ _ _ _ _ _ _ _ _ _ _ _ _ _ _ _ _ _ _ _ _ _ _ _ _ _ _ _ _ _ _ _ _ _ _ _ _ _ _ _ _ _ _ _ _ _ _ _ _ _ _ _ _ _ _ _ _ _ _ (HM.out.kp hk2 (by decide) (by decide) (by decide) (by decide)) hv2 (by obtain ⟨arr, sB, hr⟩ := HS.out; exact ⟨arr, hk2.block _ _ _ sB (by decide), hr⟩) hb2 (markR_in _ _ _ _ _ (markR_in _ _ _ _ _ HI.out (by omega)) (by omega)) hn
end Wlk
end Go.Proofs.YbulkcqiDoor
