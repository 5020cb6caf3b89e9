import Derived.Test.YbulkcqiDoorStC
namespace Go.Proofs.YbulkcqiDoor
open Go.RowKit
set_option linter.unusedVariables false
set_option linter.unusedSimpArgs false

namespace Wlk
/-- The law's memory before the rows of Booleans are made. -/
structure PreB (W w : World) (n ab ib wb : Nat) (S : Nat → Bool) : Prop where
  wd : Row w wb 25 (fun i => .int .u64 (wordOf (fun _ _ => false) i)) ((n / 64 + 1) * 3)
  a0 : ∃ arr, Blk w ab arr 26 ∧ arr[4]? = some (.int .u64 (setW S 0)) ∧ arr[5]? = some (.int .u64 (setW S 1))
  i0 : ∃ arr, Blk w ib arr 33 ∧ arr[2]? = some (.int .u32 1)
  below : Below W.heap.size W w
  wb : W.heap.size ≤ wb

/-- Between two rounds of the making of the rows. -/
structure VPart (wc : World) (n k : Nat) (bk : Nat → Nat) (wr : World) : Prop where
  top : Row wr wc.heap.size 36 (fun j => if j < k then .slice (some ⟨bk j, 0, none⟩) (n + 1) (n + 1) else .slice none 0 0) 3
  rows : ∀ j, j < k → Row wr (bk j) 4 (fun _ => .bool false) (n + 1)
  ne : ∀ j j', j < k → j' < k → bk j = bk j' → j = j'
  ge : ∀ j, j < k → wc.heap.size ≤ bk j
  bel : Below wc.heap.size wc wr
def VRel (wc : World) (n : Nat) (v : Value) (wr : World) : Prop := ∃ (k : Nat) (bk : Nat → Nat), k ≤ 3 ∧ v = .int .i64 k ∧ VPart wc n k bk wr
theorem VPart.step {wc : World} {n k : Nat} {bk : Nat → Nat} {wr w2 : World} (h : VPart wc n k bk wr) (hk : k < 3) (hr : Row w2 wr.heap.size 4 (fun _ => .bool false) (n + 1)) (hg : wr.grownBy w2 none) :
    w2.cell? ⟨wc.heap.size, k, none⟩ = some (.slice none 0 0) ∧ w2.frozen? ⟨wc.heap.size, k, none⟩ = false ∧ VPart wc n (k + 1) (fun j => if j = k then wr.heap.size else bk j) (w2.setCell ⟨wc.heap.size, k, none⟩ (.slice (some ⟨wr.heap.size, 0, none⟩) (n + 1) (n + 1))) := by
  have kp : Kp [] wr w2 := Kp.grown0 (Kp.refl _ _) hg
  have t2 := h.top.kp kp (by simp)
  have hbs := h.bel.size
  have c := t2.cell hk
  rw [if_neg (Nat.lt_irrefl k)] at c
  obtain ⟨tarr, tb, tf⟩ := t2
  refine ⟨c, tb.free _, ⟨?_, fun j hj => ?_, fun j j' hj hj' e => ?_, fun j hj => ?_, ?_⟩⟩
  · refine Row.set ⟨tarr, tb, tf⟩ hk (fun j hj => ?_)
    by_cases e : j = k
    · subst e; simp
    · have e2 : (j < k + 1) = (j < k) := by apply propext; omega
      simp [e, e2]
  · by_cases e : j = k
    · subst e
      obtain ⟨arr, rb, rf⟩ := hr
      simp only [if_true]
      exact ⟨arr, rb.other (blk_ne tb rb (by decide)) _ _, rf⟩
    · obtain ⟨arr, rb, rf⟩ := (h.rows j (by omega)).kp kp (by simp)
      rw [if_neg e]
      exact ⟨arr, rb.other (blk_ne tb rb (by decide)) _ _, rf⟩
  · by_cases e1 : j = k
    · by_cases e2 : j' = k
      · omega
      · simp only [e1, e2, if_true, if_false] at e
        have := (h.rows j' (by omega)).lt
        omega
    · by_cases e2 : j' = k
      · simp only [e1, e2, if_true, if_false] at e
        have := (h.rows j (by omega)).lt
        omega
      · simp only [e1, e2, if_false] at e
        exact h.ne j j' (by omega) (by omega) e
  · by_cases e : j = k
    · simp only [e, if_true]; exact hbs
    · simp only [e, if_false]; exact h.ge j (by omega)
  · exact (RowKit.Below.setCell (Below.grown0 h.bel hg hbs) (p := ⟨wc.heap.size, k, none⟩) (Nat.le_refl _) _)
theorem VPart.pre {W wc wr : World} {n ab ib wb : Nat} {bk : Nat → Nat} {S : Nat → Bool} (h : VPart wc n 3 bk wr) (hp : PreB W wc n ab ib wb S) : Pre W wr n ab ib wb wc.heap.size bk (fun _ => n + 1) (fun _ _ => false) S := by
  have kp := Kp.of_below (H := []) h.bel
  have hbs := hp.below.size
  refine ⟨hp.wd.kp kp (by simp), ⟨h.top.congr (fun j hj => ?_), h.rows, h.ne, fun k hk => Nat.le_trans hbs (h.ge k hk)⟩, ?_, ?_, hp.below.trans (h.bel.mono hbs), hp.wb, fun _ _ _ => rfl⟩
  · rw [if_pos hj]
  · obtain ⟨arr, a1, a2⟩ := hp.a0
    exact ⟨arr, kp.block _ _ _ a1 (by simp), a2⟩
  · obtain ⟨arr, a1, a2⟩ := hp.i0
    exact ⟨arr, kp.block _ _ _ a1 (by simp), a2⟩
def BEnd (W wc : World) (n ab ib wb : Nat) (S : Nat → Bool) (wr : World) : Prop := ∃ bk : Nat → Nat, Pre W wr n ab ib wb wc.heap.size bk (fun _ => n + 1) (fun _ _ => false) S

set_option maxRecDepth 100000 in
set_option maxHeartbeats 4000000 in
theorem stB2 (W wc : World) (s : ByteArray) (D : Nat → Nat) (aD aK : Option Addr) (n cD nK cK : Nat) (Kf : Nat → Nat) (pos e ab ac ib ic wb wcap : Nat) (u2 u3 u5 u6 u7 u8 u9 u10 u14 u15 u16 u20 u21 u22 u23 u24 u25 u26 u27 u28 u29 u30 u31 u32 u33 u34 u35 u36 u37 u38 u39 u40 u41 u42 u43 u44 u45 u46 u47 u48 u49 u50 u51 u52 u53 u54 u55 u56 u57 u58 u59 u60 u61 u62 u63 u64 u65 u66 u67 u68 u69 u70 u71 u72 u73 u74 u75 u76 u77 u78 u79 u80 u81 u82 u83 u84 u85 u86 u87 u88 u89 u90 u91 u92 u93 u94 u95 u96 u97 u98 u99 u100 u101 u102 u103 u104 u105 u106 u107 u108 u109 u110 u111 u112 u113 u114 u115 u116 u117 u118 u119 u120 u121 u122 u123 u124 u125 u126 u127 u128 u129 u130 u131 u132 u133 u134 u135 u136 u137 u138 u139 u140 u141 u142 u143 u144 u145 u146 u147 u148 u149 u150 u151 u152 u153 u154 u155 u156 u157 u158 u159 u160 u161 u162 u163 u164 u165 u166 u167 u168 u169 u170 u171 u172 u173 u174 u175 u176 u177 u178 u179 u180 u181 u182 u183 u184 u185 u186 u187 u188 u189 u190 u191 u192 u193 u194 u195 u196 u197 u198 u199 u200 u201 u202 u203 u204 u205 u206 u207 u208 u209 u210 u211 u212 u213 u214 u215 u216 u217 u218 u219 u220 u221 u222 u223 u224 u225 u226 u227 u228 u229 u230 u231 u232 u233 u234 u235 u236 u237 u238 u239 u240 u241 u242 u243 u244 u245 u246 u247 u248 u249 u250 u251 u252 u253 u254 u255 u256 u257 u258 u259 u260 u261 u262 u263 u264 u265 u266 u267 u268 u269 u270 u271 u272 u273 u274 u275 u276 u277 u278 u279 u280 u281 u282 u283 u284 u285 u286 u287 u288 u289 u290 u291 u292 u293 u294 u295 u296 u297 u298 u299 u300 u301 u302 u303 u304 u305 u306 u307 u308 u309 u310 u311 u312 u313 u314 u315 u316 u317 u318 u319 u320 u321 u322 u323 u324 u325 u326 u327 u328 u329 u330 u331 u332 u333 u334 u335 u336 u337 u338 u339 u340 u341 u342 u343 u344 u345 u346 u347 u348 u349 u350 u351 u352 u353 u354 u355 u356 u357 u358 u359 u360 u361 : Value)
    (hp : PreB W wc n ab ib wb (sOf s)) (hi : Inp W aD n D aK nK Kf) (hs : s.size ≤ 1024) (hpos : pos ≤ e) (he : e ≤ n) (hn : n ≤ 1024) (hnK : nK ≤ 1024) :
    Code.wp Ybad.prog (seqTail 12 (Ybad.f3.body.getD .skip)) (bodyPost Ybad.prog Ybad.f3 (LPost W)) ⟨((.slice aD n cD : Value) :: (.string s : Value) :: u2 :: u3 :: (.slice aK nK cK : Value) :: u5 :: u6 :: u7 :: u8 :: u9 :: u10 :: (.int .i64 n : Value) :: (.int .i64 pos : Value) :: (.int .i64 e : Value) :: u14 :: u15 :: u16 :: (.slice (some ⟨ab, 0, none⟩) 3 ac : Value) :: (.slice (some ⟨ib, 0, none⟩) 3 ic : Value) :: (.slice (some ⟨wb, 0, none⟩) ((n / 64 + 1) * 3) wcap : Value) :: u20 :: u21 :: u22 :: u23 :: u24 :: u25 :: u26 :: u27 :: u28 :: u29 :: u30 :: u31 :: u32 :: u33 :: u34 :: u35 :: u36 :: u37 :: u38 :: u39 :: u40 :: u41 :: u42 :: u43 :: u44 :: u45 :: u46 :: u47 :: u48 :: u49 :: u50 :: u51 :: u52 :: u53 :: u54 :: u55 :: u56 :: u57 :: u58 :: u59 :: u60 :: u61 :: u62 :: u63 :: u64 :: u65 :: u66 :: u67 :: u68 :: u69 :: u70 :: u71 :: u72 :: u73 :: u74 :: u75 :: u76 :: u77 :: u78 :: u79 :: u80 :: u81 :: u82 :: u83 :: u84 :: u85 :: u86 :: u87 :: u88 :: u89 :: u90 :: u91 :: u92 :: u93 :: u94 :: u95 :: u96 :: u97 :: u98 :: u99 :: u100 :: u101 :: u102 :: u103 :: u104 :: u105 :: u106 :: u107 :: u108 :: u109 :: u110 :: u111 :: u112 :: u113 :: u114 :: u115 :: u116 :: u117 :: u118 :: u119 :: u120 :: u121 :: u122 :: u123 :: u124 :: u125 :: u126 :: u127 :: u128 :: u129 :: u130 :: u131 :: u132 :: u133 :: u134 :: u135 :: u136 :: u137 :: u138 :: u139 :: u140 :: u141 :: u142 :: u143 :: u144 :: u145 :: u146 :: u147 :: u148 :: u149 :: u150 :: u151 :: u152 :: u153 :: u154 :: u155 :: u156 :: u157 :: u158 :: u159 :: u160 :: u161 :: u162 :: u163 :: u164 :: u165 :: u166 :: u167 :: u168 :: u169 :: u170 :: u171 :: u172 :: u173 :: u174 :: u175 :: u176 :: u177 :: u178 :: u179 :: u180 :: u181 :: u182 :: u183 :: u184 :: u185 :: u186 :: u187 :: u188 :: u189 :: u190 :: u191 :: u192 :: u193 :: u194 :: u195 :: u196 :: u197 :: u198 :: u199 :: u200 :: u201 :: u202 :: u203 :: u204 :: u205 :: u206 :: u207 :: u208 :: u209 :: u210 :: u211 :: u212 :: u213 :: u214 :: u215 :: u216 :: u217 :: u218 :: u219 :: u220 :: u221 :: u222 :: u223 :: u224 :: u225 :: u226 :: u227 :: u228 :: u229 :: u230 :: u231 :: u232 :: u233 :: u234 :: u235 :: u236 :: u237 :: u238 :: u239 :: u240 :: u241 :: u242 :: u243 :: u244 :: u245 :: u246 :: u247 :: u248 :: u249 :: u250 :: u251 :: u252 :: u253 :: u254 :: u255 :: u256 :: u257 :: u258 :: u259 :: u260 :: u261 :: u262 :: u263 :: u264 :: u265 :: u266 :: u267 :: u268 :: u269 :: u270 :: u271 :: u272 :: u273 :: u274 :: u275 :: u276 :: u277 :: u278 :: u279 :: u280 :: u281 :: u282 :: u283 :: u284 :: u285 :: u286 :: u287 :: u288 :: u289 :: u290 :: u291 :: u292 :: u293 :: u294 :: u295 :: u296 :: u297 :: u298 :: u299 :: u300 :: u301 :: u302 :: u303 :: u304 :: u305 :: u306 :: u307 :: u308 :: u309 :: u310 :: u311 :: u312 :: u313 :: u314 :: u315 :: u316 :: u317 :: u318 :: u319 :: u320 :: u321 :: u322 :: u323 :: u324 :: u325 :: u326 :: u327 :: u328 :: u329 :: u330 :: u331 :: u332 :: u333 :: u334 :: u335 :: u336 :: u337 :: u338 :: u339 :: u340 :: u341 :: u342 :: u343 :: u344 :: u345 :: u346 :: u347 :: u348 :: u349 :: u350 :: u351 :: u352 :: u353 :: u354 :: u355 :: u356 :: u357 :: u358 :: u359 :: u360 :: u361 :: []).toArray, []⟩ wc := by
  conv => arg 2; whnf
  obtain ⟨i0, hi0, hz0, hz1, hz2⟩ := info_parts info36
  obtain ⟨i1, hi1, hy0, hy1, hy2⟩ := info_parts info4
  have HP : Hid (PreB W wc n ab ib wb (sOf s)) := hp
  have HI : Hid (Inp W aD n D aK nK Kf) := hi
  have hbs : W.heap.size ≤ wc.heap.size := hp.below.size
  clear hp hi
  go_upto_block 2 with (at_make; (refine wpList_make_full _ rfl (.const (.int .i64 3)) (.const (.int .i64 3)) 35 rfl wc.heap.size 36 i0 (.slice none 0 0) 1 Ybad.underlying35 hi0 hz0 hz1 .i64 .i64 _ _ 3 rfl rfl rfl rfl (by rw [hz2]; omega) (by unfold maxLen; omega) (Nat.le_refl _) ?_); intro w1 hown hgrow; (have HV : Hid (VPart wc n 0 (fun _ => 0) w1) := ⟨row_of_own hown _ (fun i hi => by rw [made1 _ _ _ hi rfl]; simp), fun j hj => absurd hj (Nat.not_lt_zero j), fun j _ hj => absurd hj (Nat.not_lt_zero j), fun j hj => absurd hj (Nat.not_lt_zero j), Below.grown0 (Below.refl _ _) hgrow (Nat.le_refl _)⟩); clear hown hgrow)
  go_cut [21] (fun _ wx => BEnd W wc n ab ib wb (sOf s) wx)
  case first =>
    go_wp2
    go_loopw [21] (fun v wr => VRel wc n v wr) (fun v _ => 3 - (intOf v).toNat)
    case atStart => exact ⟨0, _, by decide, rfl, HV.out⟩
    case round =>
      obtain ⟨k, bk, hk, rfl, hv⟩ := hrel
      have HVR : Hid (VPart wc n k bk wr) := hv
      have hbr := hv.bel.size
      clear hv HV
      by_cases hlt : k < 3
      · go_wp2_with (at_make; (refine wpList_make_full _ rfl (.tmp 114) (.tmp 114) 36 rfl wc.heap.size 4 i1 (.bool false) 1 Ybad.underlying36 hi1 hy0 hy1 .i64 .i64 _ _ (n + 1) rfl rfl (by simp) (by simp) (by rw [hy2]; omega) (by unfold maxLen; omega) hbr ?_); intro w2 hown hgrow; (obtain ⟨y1, y2, y3⟩ := HVR.out.step hlt (row_of_own hown _ (fun i hi => by rw [made1 _ _ _ hi rfl])) hgrow); (have HY : Hid (VRel wc n (.int .i64 ((k : Int) + 1)) (w2.setCell ⟨wc.heap.size, k, none⟩ (.slice (some ⟨wr.heap.size, 0, none⟩) (n + 1) (n + 1)))) := ⟨k + 1, _, by omega, by simp, y3⟩); clear hown hgrow y3)
        first
          | exact ⟨HY.out, by simp [intOf]; omega⟩
          | (go_roundw
             case rel => first | exact HY.out | ((repeat apply Exists.intro); exact ⟨HY.out, rfl⟩)
             case measure => simp [intOf]; omega)
      · have HE : Hid (BEnd W wc n ab ib wb (sOf s) wr) := ⟨bk, VPart.pre (by have h := HVR.out; rw [show k = 3 by omega] at h; exact h) HP.out⟩
        go_wp2
        go_meet
        case rel => exact HE.out
  case rest =>
    obtain ⟨bk, hpr⟩ := hcut
    refine ‹∀ (a : Act) (w : World), Code.wp Ybad.prog _ _ a w → _› _ _ ?_
    exact stC W _ s D aD aK n cD nK cK Kf pos e ab ac ib ic wb wcap _ _ bk _ _ _ _ _ _ _ _ _ _ _ _ _ _ _ _ _ _ _ _ _ _ _ _ _ _ _ _ _ _ _ _ _ _ _ _ _ _ _ _ _ _ _ _ _ _ _ _ _ _ _ _ _ _ _ _ _ _ _ _ _ _ _ _ _ _ _ _ _ _ _ _ _ _ _ _ _ _ _ _ _ _ _ _ _ _ _ _ _ _ _ _ _ _ _ _ _ _ _ _ _ _ _ _ _ _ _ _ _ _ _ _ _ _ _ _ _ _ _ _ _ _ _ _ _ _ _ _ _ _ _ _ _ _ _ _ _ _ _ _ _ _ _ _ _ _ _ _ _ _ _ _ _ _ _ _ _ _ _ _ _ _ _ _ _ _ _ _ _ _ _ _ _ _ _ _ _ _ _ _ _ _ _ _ _ _ _ _ _ _ _ _ _ _ _ _ _ _ _ _ _ _ _ _ _ _ _ _ _ _ _ _ _ _ _ _ _ _ _ _ _ _ _ _ _ _ _ _ _ _ _ _ _ _ _ _ _ _ _ _ _ _ _ _ _ _ _ _ _ _ _ _ _ _ _ _ _ _ _ _ _ _ _ _ _ _ _ _ _ _ _ _ _ _ _ _ _ _ _ _ _ _ _ _ _ _ _ _ _ _ _ _ _ _ _ _ _ _ _ _ _ _ _ _ _ _ _ _ _ _ _ _ _ _ _ _ _ _ _ _ _ _ _ _ _ _ _ _ _ _ _ _ _ _ _ _ _ _ _ _ _ _ _ _ _ _ _ _ _ _ _ _ _ hpr HI.out hs hpos he hn hnK
end Wlk
end Go.Proofs.YbulkcqiDoor
