import Derived.Test.YbulkcosFmtObsB
namespace Go.Proofs.YbulkcosFmt
open Go.RowKit
set_option linter.unusedVariables false
set_option linter.unusedSimpArgs false
attribute [local go_sem] run_store_float

set_option maxRecDepth 100000 in
set_option maxHeartbeats 4000000 in
theorem stage2 (base B : Nat) (rule q : Int) (p : Int) (ob av fb fc : Nat) (ps : Bool) (e o : Nat) (rate : Nat) (w wc : World) (n : Nat) (rv : Value) (xs : List Nat) (hnq : (n : Int) ≤ q) (u2 u3 u6 u7 u8 u9 u10 u11 u12 u13 u14 u15 u16 u17 u18 u19 u20 u21 u22 u23 u24 u25 u26 u27 u28 u29 u30 u31 u32 u33 u34 u35 u36 u37 u38 u39 u40 u41 u42 u43 u44 u45 u46 u47 u48 u49 u50 u51 u52 u53 u54 u55 u56 u57 u58 u59 u60 u61 u62 u63 u64 u65 u66 u67 u68 u69 u70 u71 u72 u73 u74 u75 u76 u77 u78 u79 u80 u81 u82 u83 u84 u85 u86 u87 u88 u89 u90 u91 u92 u93 u94 u95 u96 u97 u98 u99 u100 u101 u102 u103 u104 u105 u106 u107 u108 u109 u110 u111 u112 u113 u114 u115 u116 u117 u118 u119 u120 u121 u122 u123 u124 u125 u126 u127 u128 u129 u130 u131 u132 u133 u134 u135 u136 u137 u138 u139 u140 u141 u142 u143 u144 u145 u146 u147 u148 u149 u150 u151 u152 u153 u154 u155 u156 u157 u158 u159 u160 u161 u162 u163 u164 u165 u166 u167 u168 u169 u170 u171 u172 : Value) (hb : base ≤ B) (hlt : B < w.heap.size) (hp0 : 0 ≤ p) (hp3 : p ≤ 300) (hrule : rule = 0 ∨ rule = 1 ∨ rule = 2) (hq1 : 1 ≤ q) (hq8 : q ≤ 8) (hcut : R1 base B n rule q rv p ob av fb fc ps e o xs rate w wc) :
    Code.wp Ybaf.prog (seqTail 4 (Ybaf.f5.body.getD .skip)) (bodyPost Ybaf.prog Ybaf.f5 (Obs base B rule q p fc e o rate w)) ⟨((.pointer (some ⟨B, 0, none⟩) : Value) :: (.float .f64 rate : Value) :: u2 :: u3 :: (.pointer (some ⟨w.heap.size, 0, none⟩) : Value) :: (.pointer (some ⟨w.heap.size + 1, 0, none⟩) : Value) :: u6 :: u7 :: u8 :: u9 :: u10 :: u11 :: u12 :: u13 :: u14 :: u15 :: u16 :: u17 :: u18 :: u19 :: u20 :: u21 :: u22 :: u23 :: u24 :: u25 :: u26 :: u27 :: u28 :: u29 :: u30 :: u31 :: u32 :: u33 :: u34 :: u35 :: u36 :: u37 :: u38 :: u39 :: u40 :: u41 :: u42 :: u43 :: u44 :: u45 :: u46 :: u47 :: u48 :: u49 :: u50 :: u51 :: u52 :: u53 :: u54 :: u55 :: u56 :: u57 :: u58 :: u59 :: u60 :: u61 :: u62 :: u63 :: u64 :: u65 :: u66 :: u67 :: u68 :: u69 :: u70 :: u71 :: u72 :: u73 :: u74 :: u75 :: u76 :: u77 :: u78 :: u79 :: u80 :: u81 :: u82 :: u83 :: u84 :: u85 :: u86 :: u87 :: u88 :: u89 :: u90 :: u91 :: u92 :: u93 :: u94 :: u95 :: u96 :: u97 :: u98 :: u99 :: u100 :: u101 :: u102 :: u103 :: u104 :: u105 :: u106 :: u107 :: u108 :: u109 :: u110 :: u111 :: u112 :: u113 :: u114 :: u115 :: u116 :: u117 :: u118 :: u119 :: u120 :: u121 :: u122 :: u123 :: u124 :: u125 :: u126 :: u127 :: u128 :: u129 :: u130 :: u131 :: u132 :: u133 :: u134 :: u135 :: u136 :: u137 :: u138 :: u139 :: u140 :: u141 :: u142 :: u143 :: u144 :: u145 :: u146 :: u147 :: u148 :: u149 :: u150 :: u151 :: u152 :: u153 :: u154 :: u155 :: u156 :: u157 :: u158 :: u159 :: u160 :: u161 :: u162 :: u163 :: u164 :: u165 :: u166 :: u167 :: u168 :: u169 :: u170 :: u171 :: u172 :: []).toArray, []⟩ wc := by
  conv => arg 2; whnf
  obtain ⟨e', o', hsum, hB1, hR, hP, hown1, hbel1, hsz⟩ := hcut
  have HS : Hid (Sums p fc rate e o e' o') := hsum
  clear hsum
  obtain ⟨ao, cap, rfl, hsh⟩ := own_shape hown1
  obtain ⟨c0, c1, c2, c3, c4, c5, c6, c13, c14⟩ := hB1.set2
  have f6 := hB1.free 6
  have HB1 : Hid (Blk wc B (fBlk rule q (.slice ao n cap) p ob av fb fc ps e' o') 32) := hB1
  have HR : Hid _ := hR
  have HP : Hid _ := hP
  have HO : Hid (wc.ownsRow base 25 1 (.slice ao n cap) n (xs.map (Value.float .f64))) := hown1
  have HL : Hid _ := hbel1
  have HSH : Hid _ := hsh
  clear hB1 hR hP hown1 hbel1 hsh
  go_wp2_with fail
  go_quiet (fail)
  go_upto_if 56 with fail
  go_cut [] (fun wd => R2 base B rule q p ob av fb fc ps e o rate w wd)
  case first =>
    by_cases hnq' : (n : Int) = q
    · obtain ⟨g, cur, rfl, hg1, hg2, hg3, hg4, hg5, hg6⟩ : ∃ g cur, ao = some ⟨g, 0, none⟩ ∧ base ≤ g ∧ wc.heap[g]? = some (.cells cur 25 (0, 0)) ∧ n ≤ cap ∧ cap ≤ maxLen ∧ cur.size = cap ∧ cur.toList.take n = xs.map (Value.float .f64) := by
        rcases HSH.out with ⟨_, h, _⟩ | h
        · omega
        · exact h
      subst hnq'
      have hB1 := HB1.out
      have hown1 := HO.out
      obtain ⟨i0, hi0, hz0, hz1, hz2⟩ := info_parts Ybaf.info25
      obtain ⟨ys, hys⟩ : ∃ ys : List Nat, ys = xs.tail := ⟨_, rfl⟩
      have hne : g ≠ B := by
        have := own_ne hown1 hB1 (by decide)
        simpa [Value.ownBlock] using this
      have hxl : xs.length = n := by
        have h := hown1.1
        simpa using h
      have N1 : Hid ((ys.map (Value.float .f64)).length = (n - 1) * 1) := by
        show _ = _
        rw [hys]
        simp [hxl]
      have N2 : Hid (∀ u ∈ ys.map (Value.float .f64), u.oneCell' = true) := by
        intro u hu
        obtain ⟨x, _, rfl⟩ := List.mem_map.1 hu
        rfl
      have cells : ∀ j, ∀ u, (xs.map (Value.float .f64))[j]? = some u → wc.cell? ⟨g, j, none⟩ = some u := by
        intro j u hu
        have := hown1.cells (g := g) rfl j u hu
        rwa [Addr.add_lit, Nat.zero_add] at this
      have N3 : Hid (∀ (k : Nat) (A : Addr), A = (if cap = 1 then ⟨g, 0, none⟩ else ⟨g, 1, none⟩) → ∀ (j : Nat) u, (ys.map (Value.float .f64))[j]? = some u → (wc.drewN k).cell? (A.add j) = some u) := by
        intro k A hA j u hu
        have hj : j + 1 < n := by
          have h1 := (List.getElem?_eq_some_iff.1 hu).1
          have h2 := N1.out
          omega
        rw [if_neg (by omega)] at hA
        subst hA
        rw [World.cell?_drewN, Addr.add_lit, Nat.add_comm 1 j]
        refine cells (j + 1) u ?_
        rw [← hu, hys]
        simp
      have N4 : Hid (∀ (k j : Nat), j < (ys.map (Value.float .f64)).length → ((wc.drewN k).cell? ⟨g, 0 + 0 * 1 + j, none⟩).isSome = true ∧ (wc.drewN k).frozen? ⟨g, 0 + 0 * 1 + j, none⟩ = false) := by
        intro k j hj
        have h2 := N1.out
        rw [World.cell?_drewN, World.frozen?_drewN, show 0 + 0 * 1 + j = j by omega]
        obtain ⟨u, hu⟩ : ∃ u, (xs.map (Value.float .f64))[j]? = some u := ⟨_, List.getElem?_eq_getElem (by simp; omega)⟩
        rw [cells j u hu]
        refine ⟨rfl, ?_⟩
        simp [World.frozen?, hg2]
      have K6 : ∀ k, ((wc.drewN k).setCells g 0 (ys.map (Value.float .f64))).cell? ⟨B, 6, none⟩ = some (.slice (some ⟨g, 0, none⟩) n cap) := by
        intro k
        rw [World.cell?_setCells_out g _ _ _ _ (fun h _ => absurd h.symm hne)]
        exact c6
      have F6 : ∀ k, ((wc.drewN k).setCells g 0 (ys.map (Value.float .f64))).frozen? ⟨B, 6, none⟩ = false := by
        intro k
        rw [World.frozen?_setCells]
        exact f6
      have HG2 : Hid (Blk wc g cur 25) := hg2
      have HG6 : Hid (cur.toList.take n = xs.map (Value.float .f64)) := hg6
      clear hys cells hxl
      have hcap1 : 1 ≤ cap := by omega
      clear hB1 hown1 hg2 hg6 HSH
      go_wp2_with fail
      clear hz0 hz2
      by_cases hc1 : cap = 1
      · obtain rfl : n = 1 := by omega
        subst hc1
        go_region_law (refine step_append_room rfl (.tmp 62) (.tmp 67) 28 rfl 25 i0 1 Ybaf.underlying28 hi0 hz1 g 0 0 1 (by simp [Act.eval, Act.put]) ⟨g, 0, none⟩ 0 0 (ys.map (Value.float .f64)) (by simp [Act.eval, Act.put]) N1.out (N3.out _ _ rfl) N2.out (by omega) (N4.out _) ?_)
        all_goals go_wp2
        all_goals go_meet
        all_goals exact r2_shift rfl (by omega) HS.out HB1.out HR.out HP.out HG2.out hg1 hg3 hg4 hg5 HG6.out hb HL.out hsz _
      · have hc2 : 2 ≤ cap := by omega
        go_region_law (refine step_append_room rfl (.tmp 62) (.tmp 67) 28 rfl 25 i0 1 Ybaf.underlying28 hi0 hz1 g 0 0 cap (by simp [Act.eval, Act.put]) ⟨g, 1, none⟩ (n - 1) (cap - 1) (ys.map (Value.float .f64)) (by simp [Act.eval, Act.put]) N1.out (N3.out _ _ (by rw [if_neg hc1])) N2.out (by omega) (N4.out _) ?_)
        all_goals go_wp2
        all_goals go_meet
        all_goals exact r2_shift rfl (by omega) HS.out HB1.out HR.out HP.out HG2.out hg1 hg3 hg4 hg5 HG6.out hb HL.out hsz _
    · have hnq'' : ((n : Int) == q) = false := by simp; exact hnq'
      go_wp2_with fail
      go_meet
      case rel => exact ⟨e', o', ao, n, cap, xs, HS.out, HB1.out, HR.out, HP.out, HO.out, by omega, below_drewN HL.out _, hsz⟩
  case rest =>
    refine ‹∀ (a : Act) (w : World), Code.wp Ybaf.prog _ _ a w → _› _ _ ?_
    exact stage3 base B rule q p ob av fb fc ps e o rate w _ _ _ _ _ _ _ _ _ _ _ _ _ _ _ _ _ _ _ _ _ _ _ _ _ _ _ _ _ _ _ _ _ _ _ _ _ _ _ _ _ _ _ _ _ _ _ _ _ _ _ _ _ _ _ _ _ _ _ _ _ _ _ _ _ _ _ _ _ _ _ _ _ _ _ _ _ _ _ _ _ _ _ _ _ _ _ _ _ _ _ _ _ _ _ _ _ _ _ _ _ _ _ _ _ _ _ _ _ _ _ _ _ _ _ _ _ _ _ _ _ _ _ _ _ _ _ _ _ _ _ _ _ _ _ _ _ _ _ _ _ _ _ _ _ _ _ _ _ _ _ _ _ _ _ _ _ _ _ _ _ _ _ _ _ _ _ _ _ _ hb hlt hp0 hp3 hrule hq1 hq8 hcut

end Go.Proofs.YbulkcosFmt
