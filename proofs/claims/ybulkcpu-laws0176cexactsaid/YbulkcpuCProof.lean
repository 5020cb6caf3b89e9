import Derived.Test.YbulkcpuLaw
import Derived.ProofKit
import Derived.SliceStrings
import Derived.Deep.Slices
import Derived.Deep.SlicePairs
import Derived.ShutString
import Derived.ChangeOld
import Derived.Below
namespace Go.Proofs.Ybulkcpu
open Go.ChangeShapes Go.WideShapes Go.ChangeAt Go.RowKit Go.Deep Go.Deep
set_option linter.unusedVariables false

namespace Exa
theorem own : ownKnob Yba.prog.godebug = none := by kernel_rfl
theorem laidOut : laidOutB Yba.prog = true := by kernel_rfl

theorem plain_addr {w : World} {x : Addr} {u : Value} (h : w.cell? (x.add 0) = some u) : ∃ b off, x = ⟨b, off, none⟩ ∧ b < w.heap.size := by
  obtain ⟨b, off, sp⟩ := x
  obtain rfl : sp = none := by
    cases sp with
    | none => rfl
    | some s =>
      exfalso
      unfold World.cell? at h
      split at h
      · simp [Addr.add] at h
      · cases h
  rw [Addr.add_lit] at h
  refine ⟨b, off, rfl, ?_⟩
  rcases Nat.lt_or_ge b w.heap.size with hl | hl
  · exact hl
  · simp [World.cell?, Array.getElem?_eq_none hl] at h

theorem u8_bounds {a : Int} (h : (Lit.int .u8 a).wf = true) : 0 ≤ a ∧ a ≤ 255 := by
  simp only [Lit.wf, decide_eq_true_eq, Bool.and_eq_true] at h
  exact h

section
variable {H : Type} {enc : TypeId × Value → H} {W : World} {fuel : Nat} {v : Value} {x : DataW H × List MemPlace}

theorem u8s_of (h : DataW.trod enc Yba.prog W 0 (fun _ => true) true fuel 22 [v] = some x) : ∃ a n c, v = .slice a n c ∧ U8s W a n := by
  rcases open_ints Yba.underlying22 Yba.underlying5 (by kernel_rfl) h with ⟨hcs, _⟩ | ⟨y, l, c, zs, hcs, _, hl, hm, hz, _, hcell, hwz⟩
  · simp at hcs
    exact ⟨none, 0, 0, hcs, fun i hi => by omega⟩
  · simp at hcs
    refine ⟨some y, l, c, hcs, fun i hi => ?_⟩
    have hz' : zs.length = c := by simpa using hz
    obtain ⟨b, off, rfl, hb⟩ := plain_addr (hcell 0 (by omega))
    have hc := hcell i (by omega)
    rw [Addr.add_lit] at hc
    have hw := u8_bounds (hwz (zs.getD i 0) (by rw [List.getD_eq_getElem?_getD, List.getElem?_eq_getElem (by omega)]; simp))
    exact ⟨b, off, zs.getD i 0, rfl, hb, hc, hw.1, hw.2⟩

theorem strs_of (h : DataW.trod enc Yba.prog W 0 (fun _ => true) true fuel 34 [v] = some x) : ∃ a n c, v = .slice a n c ∧ Strs W a n := by
  rcases open_strings Yba.underlying34 Yba.underlying9 (by kernel_rfl) h with ⟨hcs, _⟩ | ⟨y, l, c, ss, hcs, _, hl, hm, hz, _, hcell, hws⟩
  · simp at hcs
    exact ⟨none, 0, 0, hcs, fun i hi => by omega⟩
  · simp at hcs
    refine ⟨some y, l, c, hcs, fun i hi => ?_⟩
    have hz' : ss.length = c := by simpa using hz
    obtain ⟨b, off, rfl, hb⟩ := plain_addr (hcell 0 (by omega))
    have hc := hcell i (by omega)
    rw [Addr.add_lit] at hc
    exact ⟨b, off, _, rfl, hb, hc⟩

theorem kss_of (h : DataW.trod enc Yba.prog W 0 (fun _ => true) true fuel 30 [v] = some x) : ∃ a n c, v = .slice a n c ∧ Kss W a n := by
  rcases open_slice1 Yba.underlying30 (by kernel_rfl) h with ⟨hcs, _⟩ | ⟨y, l, c, m, n, V, D, Pl, hcs, _, hl, hm, hmm, _, hcell⟩
  · simp at hcs
    exact ⟨none, 0, 0, hcs, fun i hi => by omega⟩
  · simp at hcs
    refine ⟨some y, l, c, hcs, fun i hi => ?_⟩
    have hm' : m = c := by simpa using hmm
    obtain ⟨h1, h2⟩ := hcell i (by omega)
    obtain ⟨a', n', c', hv, hs⟩ := strs_of h2
    obtain ⟨b, off, rfl, hb⟩ := plain_addr (hcell 0 (by omega)).1
    have hc := h1
    rw [Addr.add_lit, hv] at hc
    exact ⟨b, off, a', n', c', rfl, hb, hc, hs⟩

theorem prs_of (h : DataW.trod enc Yba.prog W 0 (fun _ => true) true fuel 31 [v] = some x) : ∃ a n c, v = .slice a n c ∧ Prs W a n := by
  rcases open_slice_pairs Yba.underlying31 Yba.underlying55 (by kernel_rfl) rfl rfl (by kernel_rfl) (by kernel_rfl) h with ⟨hcs, _⟩ | ⟨y, l, c, m, n, V0, V1, D0, D1, P0, P1, hcs, _, hl, hm, hmm, _, hcell⟩
  · simp at hcs
    exact ⟨none, 0, 0, hcs, fun i hi => by omega⟩
  · simp at hcs
    refine ⟨some y, l, c, hcs, fun i hi => ?_⟩
    have hm' : m = c := by simpa using hmm
    obtain ⟨h1, h2, h3, h4⟩ := hcell i (by omega)
    obtain ⟨p, hp, _, hwp⟩ := DataW.trod_int Yba.underlying5 h3
    obtain ⟨q, hq, _, hwq⟩ := DataW.trod_int Yba.underlying5 h4
    simp at hp hq
    rw [hp] at h1
    rw [hq] at h2
    obtain ⟨b, off, rfl, hb⟩ := plain_addr (hcell 0 (by omega)).1
    have hc := h1
    have hc2 := h2
    rw [Addr.add_lit] at hc hc2
    have w1 := u8_bounds hwp
    have w2 := u8_bounds hwq
    exact ⟨b, off, p, q, rfl, hb, hc, by rw [Nat.add_assoc]; exact hc2, w1.1, w1.2, w2.1, w2.2⟩
end

theorem cells5 : Yba.prog.cellsOf 5 = 1 := by kernel_rfl
theorem cells30 : Yba.prog.cellsOf 30 = 1 := by kernel_rfl
theorem cells22 : Yba.prog.cellsOf 22 = 1 := by kernel_rfl
theorem cells31 : Yba.prog.cellsOf 31 = 1 := by kernel_rfl
theorem cells33 : Yba.prog.cellsOf 33 = 5 := by kernel_rfl

theorem len5 {α : Type} (l : List α) (h : l.length = 5) : ∃ a b c d e, l = [a, b, c, d, e] := by
  match l, h with
  | [a, b, c, d, e], _ => exact ⟨a, b, c, d, e, rfl⟩

theorem open33 {H : Type} {enc : TypeId × Value → H} {W : World} {cs : Array Value} {d : DataW H} {p : List MemPlace} (h0 : DataW.Trod enc Yba.prog W 0 (fun _ => true) true 33 (.agg cs) d p) :
    ∃ (ga : Int) (aK aE aS aP : Option Addr) (nK cK nE cE nS cS nP cP : Nat), cs = #[.int .u8 ga, .slice aK nK cK, .slice aE nE cE, .slice aS nS cS, .slice aP nP cP] ∧ 0 ≤ ga ∧ ga ≤ 255 ∧ Kss W aK nK ∧ U8s W aE nE ∧ Prs W aS nS ∧ U8s W aP nP := by
  obtain ⟨fuel, hf⟩ := h0
  obtain ⟨xs, n, _, _, hlen, hxl, hfs⟩ := DataW.trod_struct Yba.underlying33 hf
  rw [cells33] at hlen
  obtain ⟨l⟩ := cs
  obtain ⟨v0, v1, v2, v3, v4, rfl⟩ := len5 l hlen
  obtain ⟨x0, x1, x2, x3, x4, rfl⟩ := len5 xs hxl
  have f0 : DataW.trod enc Yba.prog W 0 (fun _ => true) true n 5 [v0] = some x0 := by (have h : DataW.trod enc Yba.prog W 0 (fun _ => true) true n 5 ((([v0, v1, v2, v3, v4] : List Value).drop 0).take (Yba.prog.cellsOf 5)) = ([x0, x1, x2, x3, x4] : List (DataW H × List MemPlace))[0]? := hfs 0 _ rfl); rw [cells5] at h; exact h
  have f1 : DataW.trod enc Yba.prog W 0 (fun _ => true) true n 30 [v1] = some x1 := by (have h : DataW.trod enc Yba.prog W 0 (fun _ => true) true n 30 ((([v0, v1, v2, v3, v4] : List Value).drop 1).take (Yba.prog.cellsOf 30)) = ([x0, x1, x2, x3, x4] : List (DataW H × List MemPlace))[1]? := hfs 1 _ rfl); rw [cells30] at h; exact h
  have f2 : DataW.trod enc Yba.prog W 0 (fun _ => true) true n 22 [v2] = some x2 := by (have h : DataW.trod enc Yba.prog W 0 (fun _ => true) true n 22 ((([v0, v1, v2, v3, v4] : List Value).drop 2).take (Yba.prog.cellsOf 22)) = ([x0, x1, x2, x3, x4] : List (DataW H × List MemPlace))[2]? := hfs 2 _ rfl); rw [cells22] at h; exact h
  have f3 : DataW.trod enc Yba.prog W 0 (fun _ => true) true n 31 [v3] = some x3 := by (have h : DataW.trod enc Yba.prog W 0 (fun _ => true) true n 31 ((([v0, v1, v2, v3, v4] : List Value).drop 3).take (Yba.prog.cellsOf 31)) = ([x0, x1, x2, x3, x4] : List (DataW H × List MemPlace))[3]? := hfs 3 _ rfl); rw [cells31] at h; exact h
  have f4 : DataW.trod enc Yba.prog W 0 (fun _ => true) true n 22 [v4] = some x4 := by (have h : DataW.trod enc Yba.prog W 0 (fun _ => true) true n 22 ((([v0, v1, v2, v3, v4] : List Value).drop 4).take (Yba.prog.cellsOf 22)) = ([x0, x1, x2, x3, x4] : List (DataW H × List MemPlace))[4]? := hfs 4 _ rfl); rw [cells22] at h; exact h
  obtain ⟨ga, hga, _, hwg⟩ := DataW.trod_int Yba.underlying5 f0
  simp at hga
  subst hga
  obtain ⟨aK, nK, cK, rfl, hK⟩ := kss_of f1
  obtain ⟨aE, nE, cE, rfl, hE⟩ := u8s_of f2
  obtain ⟨aS, nS, cS, rfl, hS⟩ := prs_of f3
  obtain ⟨aP, nP, cP, rfl, hP⟩ := u8s_of f4
  exact ⟨ga, aK, aE, aS, aP, nK, cK, nE, cE, nS, cS, nP, cP, rfl, (u8_bounds hwg).1, (u8_bounds hwg).2, hK, hE, hS, hP⟩

set_option maxRecDepth 100000 in
theorem lifted (os : Os) (started : os.Started) (H : Type) (enc : TypeId × Value → H) :
    ReturnsInHanded {} Yba.checked os 4 .any (Rows.lawS0176CExactSpec.pre6 enc Yba.prog Yba.f4 Rows.lawS0176CExactRow.domain false) (Rows.lawS0176CExactSpec.post enc Yba.prog Yba.f4 false true false false) := by
  refine returnsInHanded_of_change (C := Yba.checked) own started (by kernel_rfl) Yba.func4
    (ChangeSpec.witness6 (enc := enc) (C := Yba.checked) false ⟨#[], #[.agg #[.int .u8 0, .slice none 0 0, .slice none 0 0, .slice none 0 0, .slice none 0 0]], []⟩ 8 (by kernel_rfl) (by kernel_rfl) (by kernel_rfl) (by kernel_rfl)) ?_
  intro W base args ds gs before hval0 hW hcnd _
  have hval : ∀ (j : Nat) t v, Yba.f4.params[j]? = some t → args[j]? = some v → Value.okWide Yba.prog W .any base t v := hval0
  have hW' := hW
  obtain ⟨p, q, hA0, hV, rfl, hfz, hnd⟩ := hW
  have hA : DataW.TrodAll enc Yba.prog W 0 (fun _ => true) true Yba.f4.params.toList args.toList ds p := hA0
  rw [Yba.params4] at hA hval
  obtain ⟨v0, d0, rfl, rfl, h0⟩ := trodAll_one hA
  obtain ⟨rfl, rfl⟩ := trodVars_none hV
  obtain ⟨cs, rfl, hcs⟩ := okWide_struct Yba.underlying33 (hval 0 33 v0 rfl rfl)
  have k0 := h0
  have lt0 : ∀ x ∈ p, x.block < W.heap.size := by obtain ⟨m, hm⟩ := k0; exact DataW.trod_lt m _ _ _ hm
  obtain ⟨ga, aK, aE, aS, aP, nK, cK, nE, cE, nS, cS, nP, cP, rfl, hg0, hg1, hK, hE, hS, hP⟩ := open33 h0
  clear hA0 hval0 hval
  refine (law_any W ga aK aE aS aP nK cK nE cE nS cS nP cP hg0 hg1 hK hE hS hP).mono fun e W' ⟨he, bel⟩ => ?_
  subst he
  exact ⟨_, rfl, _, _, _, [], _, [], hW', trodAll_mk1 (shut_bool Yba.underlying4 _), (trodAll_mk1 (Below.trod laidOut (by kernel_rfl) (of_decide_eq_true (by kernel_rfl)) k0 bel lt0)), rfl, bel.frame _, fun h => by cases h⟩

theorem over : Rows.lawS0176CExactRow.holds Yba.pinned (OpenSpec.ofChange Rows.lawS0176CExactSpec) :=
  OpenClaim.holds_of_wide 4 Yba.f4 rfl rfl rfl rfl rfl rfl rfl ⟨rfl, rfl, rfl, rfl, rfl⟩ rfl rfl rfl rfl rfl (by kernel_rfl) Yba.func4 (by kernel_rfl)
    (of_decide_eq_true (by kernel_rfl)) (by unfold Func.isWrapper; first | (rw [if_pos (by decide +kernel)]; kernel_rfl) | (rw [if_neg (by decide +kernel)]; exact ⟨rfl, rfl⟩))
    (fun os started H enc _ => lifted os started H enc)
end Exa

theorem lawS0176CExact_proved : Rows.LawS0176CExactSaid := Exa.over
end Go.Proofs.Ybulkcpu
