import Derived.Test.YbulkcpuLawE
namespace Go.Proofs.Ybulkcpu
open Go.RowKit Go.Shelf
set_option linter.unusedVariables false
set_option linter.unusedSimpArgs false

namespace Exa
set_option maxRecDepth 100000 in
set_option maxHeartbeats 4000000 in
theorem st9 (W wc : World) (G : Nat) (b : Bool) (ga : Int) (aK aE aS aP : Option Addr) (nK cK nE cE nS cS nP cP : Nat) (u3 u6 u7 u8 u9 u10 u11 u12 u13 u14 u15 u16 u17 u18 u19 u20 u21 u22 u23 u24 u25 u26 u27 u28 u29 u30 u31 u32 u33 u34 u35 u36 u37 u38 u39 u40 u41 u42 u43 u44 u45 u46 u47 u48 u49 u50 u51 u52 u53 u54 u55 u56 u57 u58 u59 u60 u61 u62 u63 u64 u65 u66 u67 u68 u69 u70 u71 u72 u73 u74 u75 u76 u77 u78 u79 u80 u81 u82 u83 u84 u85 u86 u87 u88 u89 u90 u91 u92 u93 u94 u95 u96 u97 u98 u99 u100 u101 u102 u103 u104 u105 u106 u107 u108 u109 u110 u111 u112 u113 u114 u115 u116 u117 u118 u119 u120 u121 u122 u123 u124 u125 u126 u127 u128 u129 u130 u131 u132 u133 u134 u135 u136 u137 u138 u139 u140 u141 u142 u143 u144 u145 u146 u147 u148 u149 u150 u151 u152 u153 u154 u155 u156 u157 u158 u159 u160 u161 u162 u163 u164 u165 u166 u167 u168 u169 u170 u171 u172 u173 u174 u175 u176 u177 u178 u179 u180 u181 u182 u183 u184 u185 u186 u187 u188 u189 u190 u191 u192 u193 u194 u195 u196 u197 u198 u199 u200 u201 u202 u203 u204 u205 u206 u207 u208 u209 u210 u211 u212 u213 u214 u215 u216 u217 u218 u219 u220 u221 u222 u223 u224 u225 u226 u227 u228 u229 u230 u231 u232 u233 u234 u235 u236 u237 u238 u239 u240 u241 u242 u243 : Value) (hin : Inp W ga aK aE aS aP nK nE nS nP) (hcut : GI W.heap.size W.heap.size #[.int .u8 ga, .slice aK nK cK, .slice aE nE cE, .slice aS nS cS, .slice aP nP cP] W G 300 300 300 0 b wc) :
    Code.wp Yba.prog (seqTail 9 (Yba.f4.body.getD .skip)) (bodyPost Yba.prog Yba.f4 (LPost W)) ⟨((.agg #[.int .u8 ga, .slice aK nK cK, .slice aE nE cE, .slice aS nS cS, .slice aP nP cP] : Value) :: (.pointer (some ⟨W.heap.size, 0, none⟩) : Value) :: (.bool false : Value) :: u3 :: (.pointer (some ⟨G, 0, none⟩) : Value) :: (.bool b : Value) :: u6 :: u7 :: u8 :: u9 :: u10 :: u11 :: u12 :: u13 :: u14 :: u15 :: u16 :: u17 :: u18 :: u19 :: u20 :: u21 :: u22 :: u23 :: u24 :: u25 :: u26 :: u27 :: u28 :: u29 :: u30 :: u31 :: u32 :: u33 :: u34 :: u35 :: u36 :: u37 :: u38 :: u39 :: u40 :: u41 :: u42 :: u43 :: u44 :: u45 :: u46 :: u47 :: u48 :: u49 :: u50 :: u51 :: u52 :: u53 :: u54 :: u55 :: u56 :: u57 :: u58 :: u59 :: u60 :: u61 :: u62 :: u63 :: u64 :: u65 :: u66 :: u67 :: u68 :: u69 :: u70 :: u71 :: u72 :: u73 :: u74 :: u75 :: u76 :: u77 :: u78 :: u79 :: u80 :: u81 :: u82 :: u83 :: u84 :: u85 :: u86 :: u87 :: u88 :: u89 :: u90 :: u91 :: u92 :: u93 :: u94 :: u95 :: u96 :: u97 :: u98 :: u99 :: u100 :: u101 :: u102 :: u103 :: u104 :: u105 :: u106 :: u107 :: u108 :: u109 :: u110 :: u111 :: u112 :: u113 :: u114 :: u115 :: u116 :: u117 :: u118 :: u119 :: u120 :: u121 :: u122 :: u123 :: u124 :: u125 :: u126 :: u127 :: u128 :: u129 :: u130 :: u131 :: u132 :: u133 :: u134 :: u135 :: u136 :: u137 :: u138 :: u139 :: u140 :: u141 :: u142 :: u143 :: u144 :: u145 :: u146 :: u147 :: u148 :: u149 :: u150 :: u151 :: u152 :: u153 :: u154 :: u155 :: u156 :: u157 :: u158 :: u159 :: u160 :: u161 :: u162 :: u163 :: u164 :: u165 :: u166 :: u167 :: u168 :: u169 :: u170 :: u171 :: u172 :: u173 :: u174 :: u175 :: u176 :: u177 :: u178 :: u179 :: u180 :: u181 :: u182 :: u183 :: u184 :: u185 :: u186 :: u187 :: u188 :: u189 :: u190 :: u191 :: u192 :: u193 :: u194 :: u195 :: u196 :: u197 :: u198 :: u199 :: u200 :: u201 :: u202 :: u203 :: u204 :: u205 :: u206 :: u207 :: u208 :: u209 :: u210 :: u211 :: u212 :: u213 :: u214 :: u215 :: u216 :: u217 :: u218 :: u219 :: u220 :: u221 :: u222 :: u223 :: u224 :: u225 :: u226 :: u227 :: u228 :: u229 :: u230 :: u231 :: u232 :: u233 :: u234 :: u235 :: u236 :: u237 :: u238 :: u239 :: u240 :: u241 :: u242 :: u243 :: []).toArray, []⟩ wc := by
  conv => arg 2; whnf
  go_upto_block 10 with fail
  go_cut [5, 17] (fun v _ wd => ∃ b', v = .bool b' ∧ GI W.heap.size W.heap.size #[.int .u8 ga, .slice aK nK cK, .slice aE nE cE, .slice aS nS cS, .slice aP nP cP] W G 300 300 300 300 b' wd)
  case first =>
    obtain ⟨i0, hi0, hz0, hz1, hz2⟩ := info_parts info59
    have HIN : Hid (U8s W aP nP) := hin.paths
    have hn3 : nP ≤ 300 := hin.nP
    have HC : Hid (GI W.heap.size W.heap.size #[.int .u8 ga, .slice aK nK cK, .slice aE nE cE, .slice aS nS cS, .slice aP nP cP] W G 300 300 300 0 b wc) := hcut
    clear hin hcut
    go_wp2
    go_loopw [5, 17] (fun v i wr => PR W.heap.size #[.int .u8 ga, .slice aK nK cK, .slice aE nE cE, .slice aS nS cS, .slice aP nP cP] W G nP v i wr) (fun _ i _ => nP - (intOf i).toNat)
    case atStart => exact ⟨0, b, Nat.zero_le _, rfl, rfl, HC.out⟩
    case round =>
      clear HC
      obtain ⟨k, b1, hk, rfl, rfl, hgi⟩ := hrel
      have HGI : Hid (GI W.heap.size W.heap.size #[.int .u8 ga, .slice aK nK cK, .slice aE nE cE, .slice aS nS cS, .slice aP nP cP] W G 300 300 300 k b1 wr) := hgi
      have c4 : wr.cell? ⟨W.heap.size, 4, none⟩ = some (.slice aP nP cP) := in_cell hgi 4
      by_cases hlt : k < nP
      · obtain ⟨bb, off, x, rfl, hbl, hx, hx0, hx1⟩ := HIN.out k hlt
        have cx : wr.cell? ⟨bb, off + k, none⟩ = some (.int .u8 x) := (old_cell hgi hbl).trans hx
        have HX : Hid (W.cell? ⟨bb, off + k, none⟩ = some (.int .u8 x)) := hx
        obtain ⟨ao, na, cap, vn, ve, vs, vp, kss, es, qs, ss, Cr, C, V, A, g1, g2, g3, g4, g5, g6, g7, g8, g9⟩ := hgi
        obtain ⟨ps, hl, hO, hQ⟩ := g1.paths
        obtain ⟨av, cv, hsv⟩ := own_shape hO
        subst hsv
        have cg : wr.cell? ⟨G, 7, none⟩ = some (.slice av qs.length cv) := g1.g.cell 7
        have t1 : wr.drew.cell? ⟨G, 7, none⟩ = some (.slice av qs.length cv) := cg
        have t2 : wr.drew.cell? ⟨W.heap.size, 4, none⟩ = some (.slice (some ⟨bb, off, none⟩) nP cP) := c4
        have t3 : wr.drew.cell? ⟨bb, off + k, none⟩ = some (.int .u8 x) := cx
        have hbs : W.heap.size ≤ wr.heap.size := g3.size
        have HG1 : Hid _ := g1
        have HG2 : Hid _ := g2
        have HG3 : Hid _ := g3
        have HG4 : Hid _ := g4
        have HG5 : Hid _ := g5
        have HG6 : Hid _ := g6
        have HG7 : Hid _ := g7
        have HG8 : Hid _ := g8
        have HG9 : Hid _ := g9
        have HL : Hid _ := hl
        have HO : Hid (wr.ownsRow W.heap.size 59 1 (.slice av qs.length cv) qs.length (ps.map ptrV)) := hO
        have HQ : Hid _ := hQ
        have hlen : qs.length ≤ 300 := by have := hn3; omega
        have HBM : Hid (∃ bm : Bool, (0 < x % 3 → bm = true) ∧ (¬ 0 < x % 3 → bm = b1) ∧ (∀ m : Nat, (m : Int) = x % 3 → (bm = true ↔ b1 = true ∨ 0 < m))) := by
          show ∃ bm : Bool, _
          by_cases h : 0 < x % 3
          · exact ⟨true, fun _ => rfl, fun h' => absurd h h', fun m hm => ⟨fun _ => .inr (by omega), fun _ => rfl⟩⟩
          · exact ⟨b1, fun h' => absurd h' h, fun _ => rfl, fun m hm => ⟨fun h => .inl h, fun h' => h'.resolve_right (by omega)⟩⟩
        obtain ⟨bm, hm1, hm2, hm3⟩ := HBM.out
        have HM1 : Hid _ := hm1
        have HM2 : Hid _ := hm2
        have HM3 : Hid _ := hm3
        clear g1 g2 g3 g4 g5 g6 g7 g8 g9 hl hO hQ hx HGI HBM hm1 hm2 hm3
        go_wp2
        go_region_law (first
          | (refine step_append_own rfl (.tmp 219) (.tmp 228) 42 rfl W.heap.size 59 i0 _ 1 8 Yba.underlying42 hi0 hz0 hz1 hz2 rfl (by decide) (.slice av qs.length cv) qs.length (ps.map ptrV) (by simp [Act.eval, Act.put]) HOw.out ⟨w'.heap.size + 1, 0, none⟩ 1 1 [ptrV w'.heap.size] (by simp [Act.eval, Act.put]) rfl HNw.out (by intro u hu; simp at hu; subst hu; rfl) (by unfold maxLen; omega) (by omega) (by simp; omega) ?_
             intro v' w2 hown' hgrow hnil hat
             obtain ⟨z1, z2, z3⟩ := path_round HG1.out HG2.out HG3.out HG4.out HG5.out HG6.out HG7.out HG8.out HG9.out (HM3.out _ hm.out) HL.out HO.out HQ.out hbel.out hown' hgrow
             obtain ⟨av', cv', hvv⟩ := own_shape hown'
             subst hvv
             have R : Hid (GI W.heap.size W.heap.size #[.int .u8 ga, .slice aK nK cK, .slice aE nE cE, .slice aS nS cS, .slice (some ⟨bb, off, none⟩) nP cP] W G 300 300 300 (k + 1) bm (w2.setCell ⟨G, 7, none⟩ (.slice av' (qs.length + 1) cv'))) := z3
             clear hown' hgrow hnil hat z3)
          | (go_simp
             refine (attrs_any x _ hx0 hx1).mono ?_
             rintro e w' ⟨m, cap', ao', hm0, rfl, hbel0⟩
             have hm : Hid ((m : Int) = x % 3) := hm0
             replace hbel0 : Below wr.heap.size wr w' := ⟨hbel0.os, hbel0.tape, hbel0.output, hbel0.size, hbel0.block⟩
             have hbel : Hid (Below wr.heap.size wr w') := hbel0
             have hbs' : wr.heap.size ≤ w'.heap.size := hbel0.size
             have q1 : w'.cell? ⟨G, 7, none⟩ = some (.slice av qs.length cv) := (((Kp.of_below (H := []) hbel0).block _ _ _ HG1.out.g (by simp)).cell 7)
             have q2 : (w'.alloc (.cells #[.slice none 0 0, .slice ao' m cap'] 61)).cell? ⟨G, 7, none⟩ = some (.slice av qs.length cv) := ((((Kp.of_below (H := []) hbel0).block _ _ _ HG1.out.g (by simp)).alloc _).cell 7)
             have q3 : ((w'.alloc (.cells #[.slice none 0 0, .slice ao' m cap'] 61)).alloc (.cells #[ptrV w'.heap.size] 59)).cell? ⟨G, 7, none⟩ = some (.slice av qs.length cv) := (((((Kp.of_below (H := []) hbel0).block _ _ _ HG1.out.g (by simp)).alloc _).alloc _).cell 7)
             unfold ptrV at q3
             have HOw : Hid (((w'.alloc (.cells #[.slice none 0 0, .slice ao' m cap'] 61)).alloc (.cells #[ptrV w'.heap.size] 59)).ownsRow W.heap.size 59 1 (.slice av qs.length cv) qs.length (ps.map ptrV)) := ((own_kp (Kp.of_below (H := []) hbel0) HO.out (by simp)).alloc _).alloc _
             have HNw : Hid (∀ j u, [ptrV w'.heap.size][j]? = some u → ((w'.alloc (.cells #[.slice none 0 0, .slice ao' m cap'] 61)).alloc (.cells #[ptrV w'.heap.size] 59)).cell? ((⟨w'.heap.size + 1, 0, none⟩ : Addr).add j) = some u) := by
               have h := cells_new (w'.alloc (.cells #[.slice none 0 0, .slice ao' m cap'] 61)) [ptrV w'.heap.size] 59
               rw [World.size_alloc] at h
               exact h
             clear hm0 hbel0))
        all_goals have y1 : (w2.setCell ⟨G, 7, none⟩ (.slice av' (qs.length + 1) cv')).cell? ⟨W.heap.size, 4, none⟩ = some (.slice (some ⟨bb, off, none⟩) nP cP) := in_cell R.out 4
        all_goals have y2 : (w2.setCell ⟨G, 7, none⟩ (.slice av' (qs.length + 1) cv')).cell? ⟨bb, off + k, none⟩ = some (.int .u8 x) := (old_cell R.out hbl).trans HX.out
        all_goals clear z1 z2 q1 q2 q3 t1 t2 t3 cg cx c4
        all_goals (
          by_cases hx3 : 0 < x % 3
          · have hR2 : Hid (PR W.heap.size #[.int .u8 ga, .slice aK nK cK, .slice aE nE cE, .slice aS nS cS, .slice (some ⟨bb, off, none⟩) nP cP] W G nP (.bool true) (.int .i64 ((k : Int) + 1)) (w2.setCell ⟨G, 7, none⟩ (.slice av' (qs.length + 1) cv'))) := ⟨k + 1, bm, by omega, by simp, by rw [HM1.out hx3], R.out⟩
            go_wp2
            go_roundw
            case rel => first | exact hR2.out | ((repeat apply Exists.intro); exact ⟨hR2.out, rfl⟩)
            case measure => simp [intOf]; omega
          · have hR2 : Hid (PR W.heap.size #[.int .u8 ga, .slice aK nK cK, .slice aE nE cE, .slice aS nS cS, .slice (some ⟨bb, off, none⟩) nP cP] W G nP (.bool b1) (.int .i64 ((k : Int) + 1)) (w2.setCell ⟨G, 7, none⟩ (.slice av' (qs.length + 1) cv'))) := ⟨k + 1, bm, by omega, by simp, by rw [HM2.out (by omega)], R.out⟩
            go_wp2
            go_roundw
            case rel => first | exact hR2.out | ((repeat apply Exists.intro); exact ⟨hR2.out, rfl⟩)
            case measure => simp [intOf]; omega)
      · obtain rfl : k = nP := by omega
        clear hgi
        go_wp2
        go_meet
        case rel => exact ⟨b1, rfl, HGI.out.wide (by omega) (by omega) (by omega) (by omega)⟩
  case rest =>
    obtain ⟨b', rfl, hcut⟩ := hcut
    refine ‹∀ (a : Act) (w : World), Code.wp Yba.prog _ _ a w → _› _ _ ?_
    exact st10 W _ G _ ga aK aE aS aP nK cK nE cE nS cS nP cP _ _ _ _ _ _ _ _ _ _ _ _ _ _ _ _ _ _ _ _ _ _ _ _ _ _ _ _ _ _ _ _ _ _ _ _ _ _ _ _ _ _ _ _ _ _ _ _ _ _ _ _ _ _ _ _ _ _ _ _ _ _ _ _ _ _ _ _ _ _ _ _ _ _ _ _ _ _ _ _ _ _ _ _ _ _ _ _ _ _ _ _ _ _ _ _ _ _ _ _ _ _ _ _ _ _ _ _ _ _ _ _ _ _ _ _ _ _ _ _ _ _ _ _ _ _ _ _ _ _ _ _ _ _ _ _ _ _ _ _ _ _ _ _ _ _ _ _ _ _ _ _ _ _ _ _ _ _ _ _ _ _ _ _ _ _ _ _ _ _ _ _ _ _ _ _ _ _ _ _ _ _ _ _ _ _ _ _ _ _ _ _ _ _ _ _ _ _ _ _ _ _ _ _ _ _ _ _ _ _ _ _ _ _ _ _ _ _ _ _ _ _ _ _ _ _ _ _ _ _ _ _ _ _ _ _ _ _ _ hin hcut

end Exa
end Go.Proofs.Ybulkcpu
