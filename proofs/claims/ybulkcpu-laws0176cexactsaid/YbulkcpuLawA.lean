import Derived.Test.YbulkcpuLawN
import Derived.Test.YbulkcpuLawB
namespace Go.Proofs.Ybulkcpu
open Go.RowKit Go.Shelf
set_option linter.unusedVariables false
set_option linter.unusedSimpArgs false

namespace Exa
set_option maxRecDepth 100000 in
set_option maxHeartbeats 4000000 in
theorem st5 (W wc : World) (G : Nat) (b : Bool) (ga : Int) (aK aE aS aP : Option Addr) (nK cK nE cE nS cS nP cP : Nat) (u3 u6 u7 u8 u9 u10 u11 u12 u13 u14 u15 u16 u17 u18 u19 u20 u21 u22 u23 u24 u25 u26 u27 u28 u29 u30 u31 u32 u33 u34 u35 u36 u37 u38 u39 u40 u41 u42 u43 u44 u45 u46 u47 u48 u49 u50 u51 u52 u53 u54 u55 u56 u57 u58 u59 u60 u61 u62 u63 u64 u65 u66 u67 u68 u69 u70 u71 u72 u73 u74 u75 u76 u77 u78 u79 u80 u81 u82 u83 u84 u85 u86 u87 u88 u89 u90 u91 u92 u93 u94 u95 u96 u97 u98 u99 u100 u101 u102 u103 u104 u105 u106 u107 u108 u109 u110 u111 u112 u113 u114 u115 u116 u117 u118 u119 u120 u121 u122 u123 u124 u125 u126 u127 u128 u129 u130 u131 u132 u133 u134 u135 u136 u137 u138 u139 u140 u141 u142 u143 u144 u145 u146 u147 u148 u149 u150 u151 u152 u153 u154 u155 u156 u157 u158 u159 u160 u161 u162 u163 u164 u165 u166 u167 u168 u169 u170 u171 u172 u173 u174 u175 u176 u177 u178 u179 u180 u181 u182 u183 u184 u185 u186 u187 u188 u189 u190 u191 u192 u193 u194 u195 u196 u197 u198 u199 u200 u201 u202 u203 u204 u205 u206 u207 u208 u209 u210 u211 u212 u213 u214 u215 u216 u217 u218 u219 u220 u221 u222 u223 u224 u225 u226 u227 u228 u229 u230 u231 u232 u233 u234 u235 u236 u237 u238 u239 u240 u241 u242 u243 : Value) (hin : Inp W ga aK aE aS aP nK nE nS nP) (H3 : Hid (∀ i, i < nK → ∀ b off a m c, aK = some ⟨b, off, none⟩ → W.cell? ⟨b, off + i, none⟩ = some (.slice a m c) → m ≤ 300)) (hcut : GI W.heap.size W.heap.size #[.int .u8 ga, .slice aK nK cK, .slice aE nE cE, .slice aS nS cS, .slice aP nP cP] W G 0 0 0 0 b wc) :
    Code.wp Yba.prog (seqTail 5 (Yba.f4.body.getD .skip)) (bodyPost Yba.prog Yba.f4 (LPost W)) ⟨((.agg #[.int .u8 ga, .slice aK nK cK, .slice aE nE cE, .slice aS nS cS, .slice aP nP cP] : Value) :: (.pointer (some ⟨W.heap.size, 0, none⟩) : Value) :: (.bool false : Value) :: u3 :: (.pointer (some ⟨G, 0, none⟩) : Value) :: (.bool b : Value) :: u6 :: u7 :: u8 :: u9 :: u10 :: u11 :: u12 :: u13 :: u14 :: u15 :: u16 :: u17 :: u18 :: u19 :: u20 :: u21 :: u22 :: u23 :: u24 :: u25 :: u26 :: u27 :: u28 :: u29 :: u30 :: u31 :: u32 :: u33 :: u34 :: u35 :: u36 :: u37 :: u38 :: u39 :: u40 :: u41 :: u42 :: u43 :: u44 :: u45 :: u46 :: u47 :: u48 :: u49 :: u50 :: u51 :: u52 :: u53 :: u54 :: u55 :: u56 :: u57 :: u58 :: u59 :: u60 :: u61 :: u62 :: u63 :: u64 :: u65 :: u66 :: u67 :: u68 :: u69 :: u70 :: u71 :: u72 :: u73 :: u74 :: u75 :: u76 :: u77 :: u78 :: u79 :: u80 :: u81 :: u82 :: u83 :: u84 :: u85 :: u86 :: u87 :: u88 :: u89 :: u90 :: u91 :: u92 :: u93 :: u94 :: u95 :: u96 :: u97 :: u98 :: u99 :: u100 :: u101 :: u102 :: u103 :: u104 :: u105 :: u106 :: u107 :: u108 :: u109 :: u110 :: u111 :: u112 :: u113 :: u114 :: u115 :: u116 :: u117 :: u118 :: u119 :: u120 :: u121 :: u122 :: u123 :: u124 :: u125 :: u126 :: u127 :: u128 :: u129 :: u130 :: u131 :: u132 :: u133 :: u134 :: u135 :: u136 :: u137 :: u138 :: u139 :: u140 :: u141 :: u142 :: u143 :: u144 :: u145 :: u146 :: u147 :: u148 :: u149 :: u150 :: u151 :: u152 :: u153 :: u154 :: u155 :: u156 :: u157 :: u158 :: u159 :: u160 :: u161 :: u162 :: u163 :: u164 :: u165 :: u166 :: u167 :: u168 :: u169 :: u170 :: u171 :: u172 :: u173 :: u174 :: u175 :: u176 :: u177 :: u178 :: u179 :: u180 :: u181 :: u182 :: u183 :: u184 :: u185 :: u186 :: u187 :: u188 :: u189 :: u190 :: u191 :: u192 :: u193 :: u194 :: u195 :: u196 :: u197 :: u198 :: u199 :: u200 :: u201 :: u202 :: u203 :: u204 :: u205 :: u206 :: u207 :: u208 :: u209 :: u210 :: u211 :: u212 :: u213 :: u214 :: u215 :: u216 :: u217 :: u218 :: u219 :: u220 :: u221 :: u222 :: u223 :: u224 :: u225 :: u226 :: u227 :: u228 :: u229 :: u230 :: u231 :: u232 :: u233 :: u234 :: u235 :: u236 :: u237 :: u238 :: u239 :: u240 :: u241 :: u242 :: u243 :: []).toArray, []⟩ wc := by
  conv => arg 2; whnf
  go_upto_block 2 with fail
  go_cut [5, 6, 7, 8, 9] (fun v _ _ _ _ wd => ∃ b', v = .bool b' ∧ GI W.heap.size W.heap.size #[.int .u8 ga, .slice aK nK cK, .slice aE nE cE, .slice aS nS cS, .slice aP nP cP] W G 300 0 0 0 b' wd)
  case first =>
    obtain ⟨i0, hi0, hz0, hz1, hz2⟩ := info_parts info46
    obtain ⟨i1, hi1, hy0, hy1, hy2⟩ := info_parts info50
    have HIN : Hid (Kss W aK nK) := hin.keys
    have hn3 : nK ≤ 300 := hin.nK
    have HC : Hid (GI W.heap.size W.heap.size #[.int .u8 ga, .slice aK nK cK, .slice aE nE cE, .slice aS nS cS, .slice aP nP cP] W G 0 0 0 0 b wc) := hcut
    clear hin hcut
    go_wp2
    go_loopw [5, 6, 7, 8, 9] (fun v i _ _ _ wr => NR W.heap.size #[.int .u8 ga, .slice aK nK cK, .slice aE nE cE, .slice aS nS cS, .slice aP nP cP] W G nK v i wr) (fun _ i _ _ _ _ => nK - (intOf i).toNat)
    case atStart => exact ⟨0, b, Nat.zero_le _, rfl, rfl, HC.out⟩
    case round =>
      clear HC
      obtain ⟨k, b1, hk, rfl, rfl, hgi⟩ := hrel
      have HGI : Hid (GI W.heap.size W.heap.size #[.int .u8 ga, .slice aK nK cK, .slice aE nE cE, .slice aS nS cS, .slice aP nP cP] W G k 0 0 0 b1 wr) := hgi
      have c1 : wr.cell? ⟨W.heap.size, 1, none⟩ = some (.slice aK nK cK) := in_cell hgi 1
      by_cases hlt : k < nK
      · obtain ⟨bb, off, a7, n7, c7, rfl, hbl, hx, hst⟩ := HIN.out k hlt
        have cx : wr.cell? ⟨bb, off + k, none⟩ = some (.slice a7 n7 c7) := (old_cell hgi hbl).trans hx
        have HST : Hid (Strs W a7 n7) := hst
        have hn7 : n7 ≤ 300 := H3.out k hlt _ _ _ _ _ rfl hx
        have hbs : W.heap.size ≤ wr.heap.size := hgi.above.1
        have HBW : Hid (Below W.heap.size W wr) := hgi.above.2.1
        clear hgi hst hx
        obtain ⟨wo, rfl⟩ : ∃ wo, wo = wr := ⟨_, rfl⟩
        go_wp2
        go_loopw [5, 9] (fun v j w4 => NI wo wo.heap.size b1 n7 v j w4) (fun _ j _ => n7 - (intOf j).toNat)
        case atStart => exact ni_start wo b1 n7
        case round =>
          clear c1 cx
          obtain ⟨ks, b2, va, hlk, rfl, rfl, hbb, hB4, hO4, hbel4⟩ := hrel
          obtain ⟨av, cv, rfl⟩ := own_shape hO4
          have HBB : Hid (b2 = true ↔ b1 = true ∨ ∃ k ∈ ks, isLab k = false) := hbb
          have HB4 : Hid (Blk wr wo.heap.size #[.string nB, .bool false, .slice av ks.length cv] 48) := hB4
          have HO4 : Hid (wr.ownsRow wo.heap.size 50 3 (.slice av ks.length cv) ks.length (ks.flatMap attrCells)) := hO4
          have HL4 : Hid (Below wo.heap.size wo wr) := hbel4
          have hsz4 : wo.heap.size ≤ wr.heap.size := hbel4.size
          have pc : wr.cell? ⟨wo.heap.size, 2, none⟩ = some (.slice av ks.length cv) := hB4.cell 2
          clear hbb hB4 hO4 hbel4
          by_cases hlt2 : ks.length < n7
          · obtain ⟨kb, ko, key, rfl, hkl, hkc⟩ := HST.out ks.length hlt2
            have kc : wr.cell? ⟨kb, ko + ks.length, none⟩ = some (.string key) := ((HL4.out.cell (p := ⟨kb, ko + ks.length, none⟩) (by exact Nat.lt_of_lt_of_le hkl hbs)).trans (HBW.out.cell (p := ⟨kb, ko + ks.length, none⟩) hkl)).trans hkc
            have HKC : Hid (W.cell? ⟨kb, ko + ks.length, none⟩ = some (.string key)) := hkc
            have t1 : wr.drew.cell? ⟨wo.heap.size, 2, none⟩ = some (.slice av ks.length cv) := pc
            have t2 : wr.drew.cell? ⟨kb, ko + ks.length, none⟩ = some (.string key) := kc
            have t3 : (wr.alloc (.cells #[.string key, .string ⟨#[118]⟩, .bool false] 50)).drew.cell? ⟨wo.heap.size, 2, none⟩ = some (.slice av ks.length cv) := (HB4.out.alloc _).cell 2
            have HOd : Hid (wr.drew.ownsRow wo.heap.size 50 3 (.slice av ks.length cv) ks.length (ks.flatMap attrCells)) := HO4.out
            clear hkc
            by_cases hlab : (key.toList == [108, 97, 98, 101, 108]) = true
            · have HBM : Hid (b2 = true ↔ b2 = true ∨ isLab key = false) := ⟨fun h => .inl h, fun h => h.resolve_right (by unfold isLab; rw [hlab]; simp)⟩
              go_wp2
              go_region_law (refine step_append_own rfl (.tmp 88) (.tmp 94) 37 rfl wo.heap.size 50 i1 _ 3 40 Yba.underlying37 hi1 hy0 hy1 hy2 rfl (by decide) (.slice av ks.length cv) ks.length (ks.flatMap attrCells) (by simp [Act.eval, Act.put]) (HOd.out.alloc _) ⟨wr.heap.size, 0, none⟩ 1 1 (attrCells key) (by simp [Act.eval, Act.put]) rfl (cells_new wr.drew (attrCells key) 50) (by intro u hu; simp [attrCells] at hu; rcases hu with rfl | rfl | rfl <;> rfl) (by unfold maxLen; omega) (by omega) (by simp; omega) ?_; intro v' w2 hown' hgrow hnil hat; obtain ⟨z1, z2, z3⟩ := ni_step hlt2 HBB.out HBM.out (Nat.le_refl _) HB4.out HO4.out HL4.out hown' hgrow; obtain ⟨av', cv', hvv⟩ := own_shape hown'; subst hvv; have R : Hid (NI wo wo.heap.size b1 n7 (.bool b2) (.int .i64 ((ks.length : Int) + 1)) (w2.setCell ⟨wo.heap.size, 2, none⟩ (.slice av' (ks.length + 1) cv'))) := z3; have y2 : (w2.setCell ⟨wo.heap.size, 2, none⟩ (.slice av' (ks.length + 1) cv')).cell? ⟨kb, ko + ks.length, none⟩ = some (.string key) := ni_cell z3 hkl hbs HBW.out HKC.out; clear hown' hgrow hnil hat z3)
              all_goals go_wp2
              all_goals go_roundw
              all_goals first | exact R.out | (simp [intOf]; omega) | ((repeat apply Exists.intro); exact ⟨R.out, rfl⟩)
            · have hlab2 : (key.toList == [108, 97, 98, 101, 108]) = false := by simpa using hlab
              clear hlab
              have HL2 : Hid (isLab key = false) := hlab2
              go_wp2
              go_region_law (refine step_append_own rfl (.tmp 88) (.tmp 94) 37 rfl wo.heap.size 50 i1 _ 3 40 Yba.underlying37 hi1 hy0 hy1 hy2 rfl (by decide) (.slice av ks.length cv) ks.length (ks.flatMap attrCells) (by simp [Act.eval, Act.put]) (HOd.out.alloc _) ⟨wr.heap.size, 0, none⟩ 1 1 (attrCells key) (by simp [Act.eval, Act.put]) rfl (cells_new wr.drew (attrCells key) 50) (by intro u hu; simp [attrCells] at hu; rcases hu with rfl | rfl | rfl <;> rfl) (by unfold maxLen; omega) (by omega) (by simp; omega) ?_; intro v' w2 hown' hgrow hnil hat; obtain ⟨z1, z2, z3⟩ := ni_step (bm := true) hlt2 HBB.out (show (true : Bool) = true ↔ b2 = true ∨ isLab key = false from ⟨fun _ => .inr HL2.out, fun _ => rfl⟩) (Nat.le_refl _) HB4.out HO4.out HL4.out hown' hgrow; obtain ⟨av', cv', hvv⟩ := own_shape hown'; subst hvv; have R : Hid (NI wo wo.heap.size b1 n7 (.bool true) (.int .i64 ((ks.length : Int) + 1)) (w2.setCell ⟨wo.heap.size, 2, none⟩ (.slice av' (ks.length + 1) cv'))) := z3; have y2 : (w2.setCell ⟨wo.heap.size, 2, none⟩ (.slice av' (ks.length + 1) cv')).cell? ⟨kb, ko + ks.length, none⟩ = some (.string key) := ni_cell z3 hkl hbs HBW.out HKC.out; clear hown' hgrow hnil hat z3)
              all_goals go_wp2
              all_goals go_roundw
              all_goals first | exact R.out | (simp [intOf]; omega) | ((repeat apply Exists.intro); exact ⟨R.out, rfl⟩)
          · obtain ⟨ao, na, cap, vn, ve, vs, vp, kss, es, qs, ss, Cr, C, V, A, g1, g2, g3, g4, g5, g6, g7, g8, g9⟩ := HGI.out
            obtain ⟨ps, hl, hO, hQ⟩ := g1.nodes
            obtain ⟨an, cn, hsv⟩ := own_shape hO
            subst hsv
            have cg : wr.cell? ⟨G, 4, none⟩ = some (.slice an kss.length cn) := ((Kp.of_below (H := []) HL4.out).block _ _ _ g1.g (by simp)).cell 4
            have HOn : Hid ((wr.alloc (.cells #[ptrV wo.heap.size] 46)).ownsRow W.heap.size 46 1 (.slice an kss.length cn) kss.length (ps.map ptrV)) := (own_kp (Kp.of_below (H := []) HL4.out) hO (by simp)).alloc _
            have hkl : kss.length ≤ 300 := by omega
            have HG1 : Hid _ := g1
            have HG2 : Hid _ := g2
            have HG3 : Hid _ := g3
            have HG4 : Hid _ := g4
            have HG5 : Hid _ := g5
            have HG6 : Hid _ := g6
            have HG7 : Hid _ := g7
            have HG8 : Hid _ := g8
            have HG9 : Hid _ := g9
            have HL : Hid _ := hl
            have HO : Hid _ := hO
            have HQ : Hid _ := hQ
            have HLK : Hid (ks.length ≤ n7) := hlk
            have HN7 : Hid (n7 ≤ 300) := hn7
            clear g1 g2 g3 g4 g5 g6 g7 g8 g9 hl hO hQ
            go_wp2_with (at_builtin; refine wpList_append_own_at _ rfl (.tmp 107) (.tmp 109) 39 rfl W.heap.size 46 i0 (.pointer none) 1 8 Yba.underlying39 hi0 hz0 hz1 hz2 rfl (by decide) (.slice an kss.length cn) kss.length (ps.map ptrV) rfl HOn.out ⟨wr.heap.size, 0, none⟩ 1 1 [ptrV wo.heap.size] rfl rfl (cells_new wr [ptrV wo.heap.size] 46) (by intro u hu; simp at hu; subst hu; rfl) (by unfold maxLen; omega) (by omega) (by simp; omega) ?_; intro v' w2 hown' hgrow hnil hat; obtain ⟨z1, z2, z3⟩ := node_round HG1.out HG2.out HG3.out HG4.out HG5.out HG6.out HG7.out HG8.out HG9.out HBB.out HN7.out HLK.out HL.out HO.out HQ.out HL4.out HB4.out HO4.out hown' hgrow; obtain ⟨av', cv', hvv⟩ := own_shape hown'; subst hvv; have R : Hid (GI W.heap.size W.heap.size #[.int .u8 ga, .slice (some ⟨bb, off, none⟩) nK cK, .slice aE nE cE, .slice aS nS cS, .slice aP nP cP] W G (k + 1) 0 0 0 b2 (w2.setCell ⟨G, 4, none⟩ (.slice av' (kss.length + 1) cv'))) := z3; clear hown' hgrow hnil hat z3)
            go_roundw
            case rel => first | exact ⟨k + 1, b2, by omega, by simp, rfl, R.out⟩ | ((repeat apply Exists.intro); exact ⟨⟨k + 1, b2, by omega, by simp, rfl, R.out⟩, rfl⟩)
            case measure => simp [intOf]; omega
      · obtain rfl : k = nK := by omega
        clear hgi
        go_wp2
        go_meet
        case rel => exact ⟨b1, rfl, HGI.out.wide (by omega) (by omega) (by omega) (by omega)⟩
  case rest =>
    obtain ⟨b', rfl, hcut⟩ := hcut
    refine ‹∀ (a : Act) (w : World), Code.wp Yba.prog _ _ a w → _› _ _ ?_
    exact st6 W _ G _ ga aK aE aS aP nK cK nE cE nS cS nP cP _ _ _ _ _ _ _ _ _ _ _ _ _ _ _ _ _ _ _ _ _ _ _ _ _ _ _ _ _ _ _ _ _ _ _ _ _ _ _ _ _ _ _ _ _ _ _ _ _ _ _ _ _ _ _ _ _ _ _ _ _ _ _ _ _ _ _ _ _ _ _ _ _ _ _ _ _ _ _ _ _ _ _ _ _ _ _ _ _ _ _ _ _ _ _ _ _ _ _ _ _ _ _ _ _ _ _ _ _ _ _ _ _ _ _ _ _ _ _ _ _ _ _ _ _ _ _ _ _ _ _ _ _ _ _ _ _ _ _ _ _ _ _ _ _ _ _ _ _ _ _ _ _ _ _ _ _ _ _ _ _ _ _ _ _ _ _ _ _ _ _ _ _ _ _ _ _ _ _ _ _ _ _ _ _ _ _ _ _ _ _ _ _ _ _ _ _ _ _ _ _ _ _ _ _ _ _ _ _ _ _ _ _ _ _ _ _ _ _ _ _ _ _ _ _ _ _ _ _ _ _ _ _ _ _ _ _ _ _ hin hcut

end Exa
end Go.Proofs.Ybulkcpu
