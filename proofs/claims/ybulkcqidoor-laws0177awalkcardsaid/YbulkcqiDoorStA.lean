import Derived.Test.YbulkcqiDoorStB1
namespace Go.Proofs.YbulkcqiDoor
open Go.RowKit
set_option linter.unusedVariables false
set_option linter.unusedSimpArgs false

namespace Wlk
/-- Between two rounds over takes. -/
def ARel (W : World) (s : ByteArray) (sb : Nat) (t : TypeId) (v : Value) (wr : World) : Prop := ∃ k : Nat, k ≤ s.size ∧ v = .int .i64 k ∧ Blk wr sb #[.int .u64 (setW (sUp s k) 0), .int .u64 (setW (sUp s k) 1)] t ∧ Below W.heap.size W wr
def AEnd (W : World) (s : ByteArray) (sb : Nat) (wr : World) : Prop := (∃ t, Blk wr sb #[.int .u64 (setW (sOf s) 0), .int .u64 (setW (sOf s) 1)] t) ∧ Below W.heap.size W wr

theorem set_cell {w : World} {sb : Nat} {t : TypeId} {S : Nat → Bool} (h : Blk w sb #[.int .u64 (setW S 0), .int .u64 (setW S 1)] t) (j : Nat) (hj : j < 2) : w.cell? ⟨sb, j, none⟩ = some (.int .u64 (setW S j)) := by
  rw [h.cell]
  match j, hj with
  | 0, _ => rfl
  | 1, _ => rfl
theorem set_step {w : World} {sb : Nat} {t : TypeId} {S S' : Nat → Bool} {c : Nat} (h : Blk w sb #[.int .u64 (setW S 0), .int .u64 (setW S 1)] t) (hc : c < 128) (hS : ∀ x, S' x = (S x || x == c)) :
    Blk (w.setCell ⟨sb, c / 64, none⟩ (.int .u64 ((setW S (c / 64) ||| 2 ^ (c % 64) : Nat) : Int))) sb #[.int .u64 (setW S' 0), .int .u64 (setW S' 1)] t := by
  have h2 := h.set (c / 64) (.int .u64 ((setW S (c / 64) ||| 2 ^ (c % 64) : Nat) : Int))
  rw [setW_step S S' c hS 0, setW_step S S' c hS 1]
  have hj : c / 64 < 2 := by omega
  generalize c / 64 = j at *
  match j, hj with
  | 0, _ => exact h2
  | 1, _ => exact h2
theorem set_skip {w : World} {sb : Nat} {t : TypeId} {S S' : Nat → Bool} {c : Nat} (h : Blk w sb #[.int .u64 (setW S 0), .int .u64 (setW S 1)] t) (hc : ¬ c < 128) (hS : ∀ x, S' x = (S x || x == c)) :
    Blk w sb #[.int .u64 (setW S' 0), .int .u64 (setW S' 1)] t := by
  rw [setW_step S S' c hS 0, setW_step S S' c hS 1, if_neg (by omega), if_neg (by omega)]
  exact h

set_option maxRecDepth 100000 in
set_option maxHeartbeats 4000000 in
theorem stA (W wc : World) (s : ByteArray) (D : Nat → Nat) (aD aK : Option Addr) (n cD nK cK : Nat) (Kf : Nat → Nat) (pos e sb : Nat) (t : TypeId) (u2 u3 u5 u6 u7 u8 u9 u10 u15 u16 u17 u18 u19 u20 u21 u22 u23 u24 u25 u26 u27 u28 u29 u30 u31 u32 u33 u34 u35 u36 u37 u38 u39 u40 u41 u42 u43 u44 u45 u46 u47 u48 u49 u50 u51 u52 u53 u54 u55 u56 u57 u58 u59 u60 u61 u62 u63 u64 u65 u66 u67 u68 u69 u70 u71 u72 u73 u74 u75 u76 u77 u78 u79 u80 u81 u82 u83 u84 u85 u86 u87 u88 u89 u90 u91 u92 u93 u94 u95 u96 u97 u98 u99 u100 u101 u102 u103 u104 u105 u106 u107 u108 u109 u110 u111 u112 u113 u114 u115 u116 u117 u118 u119 u120 u121 u122 u123 u124 u125 u126 u127 u128 u129 u130 u131 u132 u133 u134 u135 u136 u137 u138 u139 u140 u141 u142 u143 u144 u145 u146 u147 u148 u149 u150 u151 u152 u153 u154 u155 u156 u157 u158 u159 u160 u161 u162 u163 u164 u165 u166 u167 u168 u169 u170 u171 u172 u173 u174 u175 u176 u177 u178 u179 u180 u181 u182 u183 u184 u185 u186 u187 u188 u189 u190 u191 u192 u193 u194 u195 u196 u197 u198 u199 u200 u201 u202 u203 u204 u205 u206 u207 u208 u209 u210 u211 u212 u213 u214 u215 u216 u217 u218 u219 u220 u221 u222 u223 u224 u225 u226 u227 u228 u229 u230 u231 u232 u233 u234 u235 u236 u237 u238 u239 u240 u241 u242 u243 u244 u245 u246 u247 u248 u249 u250 u251 u252 u253 u254 u255 u256 u257 u258 u259 u260 u261 u262 u263 u264 u265 u266 u267 u268 u269 u270 u271 u272 u273 u274 u275 u276 u277 u278 u279 u280 u281 u282 u283 u284 u285 u286 u287 u288 u289 u290 u291 u292 u293 u294 u295 u296 u297 u298 u299 u300 u301 u302 u303 u304 u305 u306 u307 u308 u309 u310 u311 u312 u313 u314 u315 u316 u317 u318 u319 u320 u321 u322 u323 u324 u325 u326 u327 u328 u329 u330 u331 u332 u333 u334 u335 u336 u337 u338 u339 u340 u341 u342 u343 u344 u345 u346 u347 u348 u349 u350 u351 u352 u353 u354 u355 u356 u357 u358 u359 u360 u361 : Value)
    (hset : Blk wc sb #[.int .u64 0, .int .u64 0] t) (hsb : W.heap.size ≤ sb) (hb : Below W.heap.size W wc) (hi : Inp W aD n D aK nK Kf) (hs : s.size ≤ 1024) (hpos : pos ≤ e) (he : e ≤ n) (hn : n ≤ 1024) (hnK : nK ≤ 1024) :
    Code.wp Ybad.prog (seqTail 6 (Ybad.f3.body.getD .skip)) (bodyPost Ybad.prog Ybad.f3 (LPost W)) ⟨((.slice aD n cD : Value) :: (.string s : Value) :: u2 :: u3 :: (.slice aK nK cK : Value) :: u5 :: u6 :: u7 :: u8 :: u9 :: u10 :: (.int .i64 n : Value) :: (.int .i64 pos : Value) :: (.int .i64 e : Value) :: (.pointer (some ⟨sb, 0, none⟩) : Value) :: u15 :: u16 :: u17 :: u18 :: u19 :: u20 :: u21 :: u22 :: u23 :: u24 :: u25 :: u26 :: u27 :: u28 :: u29 :: u30 :: u31 :: u32 :: u33 :: u34 :: u35 :: u36 :: u37 :: u38 :: u39 :: u40 :: u41 :: u42 :: u43 :: u44 :: u45 :: u46 :: u47 :: u48 :: u49 :: u50 :: u51 :: u52 :: u53 :: u54 :: u55 :: u56 :: u57 :: u58 :: u59 :: u60 :: u61 :: u62 :: u63 :: u64 :: u65 :: u66 :: u67 :: u68 :: u69 :: u70 :: u71 :: u72 :: u73 :: u74 :: u75 :: u76 :: u77 :: u78 :: u79 :: u80 :: u81 :: u82 :: u83 :: u84 :: u85 :: u86 :: u87 :: u88 :: u89 :: u90 :: u91 :: u92 :: u93 :: u94 :: u95 :: u96 :: u97 :: u98 :: u99 :: u100 :: u101 :: u102 :: u103 :: u104 :: u105 :: u106 :: u107 :: u108 :: u109 :: u110 :: u111 :: u112 :: u113 :: u114 :: u115 :: u116 :: u117 :: u118 :: u119 :: u120 :: u121 :: u122 :: u123 :: u124 :: u125 :: u126 :: u127 :: u128 :: u129 :: u130 :: u131 :: u132 :: u133 :: u134 :: u135 :: u136 :: u137 :: u138 :: u139 :: u140 :: u141 :: u142 :: u143 :: u144 :: u145 :: u146 :: u147 :: u148 :: u149 :: u150 :: u151 :: u152 :: u153 :: u154 :: u155 :: u156 :: u157 :: u158 :: u159 :: u160 :: u161 :: u162 :: u163 :: u164 :: u165 :: u166 :: u167 :: u168 :: u169 :: u170 :: u171 :: u172 :: u173 :: u174 :: u175 :: u176 :: u177 :: u178 :: u179 :: u180 :: u181 :: u182 :: u183 :: u184 :: u185 :: u186 :: u187 :: u188 :: u189 :: u190 :: u191 :: u192 :: u193 :: u194 :: u195 :: u196 :: u197 :: u198 :: u199 :: u200 :: u201 :: u202 :: u203 :: u204 :: u205 :: u206 :: u207 :: u208 :: u209 :: u210 :: u211 :: u212 :: u213 :: u214 :: u215 :: u216 :: u217 :: u218 :: u219 :: u220 :: u221 :: u222 :: u223 :: u224 :: u225 :: u226 :: u227 :: u228 :: u229 :: u230 :: u231 :: u232 :: u233 :: u234 :: u235 :: u236 :: u237 :: u238 :: u239 :: u240 :: u241 :: u242 :: u243 :: u244 :: u245 :: u246 :: u247 :: u248 :: u249 :: u250 :: u251 :: u252 :: u253 :: u254 :: u255 :: u256 :: u257 :: u258 :: u259 :: u260 :: u261 :: u262 :: u263 :: u264 :: u265 :: u266 :: u267 :: u268 :: u269 :: u270 :: u271 :: u272 :: u273 :: u274 :: u275 :: u276 :: u277 :: u278 :: u279 :: u280 :: u281 :: u282 :: u283 :: u284 :: u285 :: u286 :: u287 :: u288 :: u289 :: u290 :: u291 :: u292 :: u293 :: u294 :: u295 :: u296 :: u297 :: u298 :: u299 :: u300 :: u301 :: u302 :: u303 :: u304 :: u305 :: u306 :: u307 :: u308 :: u309 :: u310 :: u311 :: u312 :: u313 :: u314 :: u315 :: u316 :: u317 :: u318 :: u319 :: u320 :: u321 :: u322 :: u323 :: u324 :: u325 :: u326 :: u327 :: u328 :: u329 :: u330 :: u331 :: u332 :: u333 :: u334 :: u335 :: u336 :: u337 :: u338 :: u339 :: u340 :: u341 :: u342 :: u343 :: u344 :: u345 :: u346 :: u347 :: u348 :: u349 :: u350 :: u351 :: u352 :: u353 :: u354 :: u355 :: u356 :: u357 :: u358 :: u359 :: u360 :: u361 :: []).toArray, []⟩ wc := by
  conv => arg 2; whnf
  have HI : Hid (Inp W aD n D aK nK Kf) := hi
  have HB : Hid (Below W.heap.size W wc) := hb
  have HS : Hid (Blk wc sb #[.int .u64 0, .int .u64 0] t) := hset
  clear hi hb hset
  go_upto_block 0 with fail
  go_cut [15, 16] (fun _ _ wx => AEnd W s sb wx)
  case first =>
    go_wp2
    go_loopw [15, 16] (fun v _ wr => ARel W s sb t v wr) (fun v _ _ => s.size - (intOf v).toNat)
    case atStart => exact ⟨0, Nat.zero_le _, rfl, by rw [setW_zero, setW_zero]; exact HS.out, HB.out⟩
    case round =>
      obtain ⟨k, hk, rfl, hst, hbr⟩ := hrel
      have HST : Hid (Blk wr sb #[.int .u64 (setW (sUp s k) 0), .int .u64 (setW (sUp s k) 1)] t) := hst
      have HBR : Hid (Below W.heap.size W wr) := hbr
      clear hst hbr HS HB
      by_cases hlt : k < s.size
      · obtain ⟨c, hc⟩ : ∃ c, c = s[k].toNat := ⟨_, rfl⟩
        have HCE : Hid (s[k].toNat = c) := hc.symm
        have HSU : Hid (∀ x, sUp s (k + 1) x = (sUp s k x || x == c)) := fun x => by rw [hc]; exact sUp_succ s k hlt x
        clear hc
        by_cases hc : c < 128
        · have hc' : s[k].toNat < 128 := by rw [HCE.out]; exact hc
          have cs := set_cell HST.out (c / 64) (by omega)
          have fs := HST.out.free (c / 64)
          rw [← HCE.out] at cs fs
          have HOB : Hid (bits BinOp.or IntKind.u64 ((setW (sUp s k) (s[k].toNat / 64) : Nat) : Int) (IntKind.u64.wrap ((2 : Int) ^ (s[k].toNat % 64))) = ((setW (sUp s k) (s[k].toNat / 64) ||| 2 ^ (s[k].toNat % 64) : Nat) : Int)) := or_bit _ _ (setW_lt _ _) (by omega)
          have HR : Hid (ARel W s sb t (.int .i64 ((k : Int) + 1)) (wr.setCell ⟨sb, s[k].toNat / 64, none⟩ (.int .u64 ((setW (sUp s k) (s[k].toNat / 64) ||| 2 ^ (s[k].toNat % 64) : Nat) : Int)))) := ⟨k + 1, by omega, by simp, set_step HST.out hc' (by rw [HCE.out]; exact HSU.out), HBR.out.setCell (by exact hsb) _⟩
          clear hc
          go_wp2
          rw [HOB.out]
          exact ⟨HR.out, by simp [intOf]; omega⟩
        · have hc' : ¬ s[k].toNat < 128 := by rw [HCE.out]; exact hc
          have HR : Hid (ARel W s sb t (.int .i64 ((k : Int) + 1)) wr) := ⟨k + 1, by omega, by simp, set_skip HST.out hc HSU.out, HBR.out⟩
          clear hc
          go_wp2
          first
            | exact ⟨HR.out, by simp [intOf]; omega⟩
            | (go_roundw
               case rel => first | exact HR.out | ((repeat apply Exists.intro); exact ⟨HR.out, rfl⟩)
               case measure => simp [intOf]; omega)
      · have HE : Hid (AEnd W s sb wr) := ⟨⟨t, by have h := HST.out; rw [setW_full s k 0 (by omega), setW_full s k 1 (by omega)] at h; exact h⟩, HBR.out⟩
        go_wp2
        go_meet
        case rel => exact HE.out
  case rest =>
    obtain ⟨hset, hbw⟩ := hcut
    refine ‹∀ (a : Act) (w : World), Code.wp Ybad.prog _ _ a w → _› _ _ ?_
    exact stB1 W _ s D aD aK n cD nK cK Kf pos e sb _ _ _ _ _ _ _ _ _ _ _ _ _ _ _ _ _ _ _ _ _ _ _ _ _ _ _ _ _ _ _ _ _ _ _ _ _ _ _ _ _ _ _ _ _ _ _ _ _ _ _ _ _ _ _ _ _ _ _ _ _ _ _ _ _ _ _ _ _ _ _ _ _ _ _ _ _ _ _ _ _ _ _ _ _ _ _ _ _ _ _ _ _ _ _ _ _ _ _ _ _ _ _ _ _ _ _ _ _ _ _ _ _ _ _ _ _ _ _ _ _ _ _ _ _ _ _ _ _ _ _ _ _ _ _ _ _ _ _ _ _ _ _ _ _ _ _ _ _ _ _ _ _ _ _ _ _ _ _ _ _ _ _ _ _ _ _ _ _ _ _ _ _ _ _ _ _ _ _ _ _ _ _ _ _ _ _ _ _ _ _ _ _ _ _ _ _ _ _ _ _ _ _ _ _ _ _ _ _ _ _ _ _ _ _ _ _ _ _ _ _ _ _ _ _ _ _ _ _ _ _ _ _ _ _ _ _ _ _ _ _ _ _ _ _ _ _ _ _ _ _ _ _ _ _ _ _ _ _ _ _ _ _ _ _ _ _ _ _ _ _ _ _ _ _ _ _ _ _ _ _ _ _ _ _ _ _ _ _ _ _ _ _ _ _ _ _ _ _ _ _ _ _ _ _ _ _ _ _ _ _ _ _ _ _ _ _ _ _ _ _ _ _ _ _ _ _ _ _ _ _ _ _ _ _ _ _ _ _ _ _ _ _ _ _ _ _ _ _ _ _ _ _ _ _ hset hbw HI.out hs hpos he hn hnK
end Wlk
end Go.Proofs.YbulkcqiDoor
