import Derived.Test.YbulkcqiDoorLaw
import Derived.Test.YbulkcqiDoorTie
import Derived.Test.YbulkcqiDoorCards
import Derived.ProofKit
import Derived.Handed
import Derived.Lib.LaidTab
import Derived.ShutString
import Derived.ChangeOld
import Derived.Below
import Derived.SevenTiedAt
namespace Go.Proofs.YbulkcqiDoor
open Go.ChangeShapes Go.WideShapes Go.ChangeAt Go.RowKit
open Go.ChangeMaps (open_string shut_string)
set_option linter.unusedVariables false

namespace Wlk
theorem own : ownKnob Ybad.prog.godebug = none := by kernel_rfl
theorem laidOut : laidOutB Ybad.prog = true := by kernel_rfl
theorem gTab : Ybad.prog.globalNamed "math/bits.deBruijn64tab" = some 0 := by kernel_rfl
theorem gTabType : (Ybad.prog.globals[0]?).map (·.type) = some 60 := by kernel_rfl
theorem cells5 : Ybad.prog.cellsOf 5 = 1 := by kernel_rfl
theorem cells60 : Ybad.prog.cellsOf 60 = 64 := by kernel_rfl

/-- The listed table, as integers. -/
def tabZs : List Int := Lib.deBruijn64tab.map Int.ofNat
theorem laid_is : Rows.lawS0177AWalkRow.laid = [("math/bits.deBruijn64tab", Lib.tabData .u8 tabZs)] := by rfl

/-- WHAT THE LISTED VARIABLE GIVES THE WALK. -/
theorem tab_of_laid {W : World} (h : laidMet Ybad.prog Rows.lawS0177AWalkRow.laid W) : Tab 0 W := by
  rw [laid_is] at h
  have hT := Lib.tabIs_of_head gTab gTabType Ybad.underlying60 Ybad.underlying5 cells5 cells60 h
  intro j hj
  have hl : tabZs.length = 64 := by rfl
  rw [hT.cell gTab j (by omega)]
  congr 2
  have hl2 : j < Lib.deBruijn64tab.length := hj
  simp [tabZs, List.getD, hl2]

theorem plain_addr {w : World} {x : Addr} {u : Value} (h : w.cell? (x.add 0) = some u) : ∃ b off, x = ⟨b, off, none⟩ ∧ b < w.heap.size := by
  obtain ⟨b, off, sp⟩ := x
  obtain rfl : sp = none := by
    cases sp with
    | none => rfl
    | some s =>
      exfalso
      unfold World.cell? at h
      split at h
      · simp [Addr.add] at h
      · cases h
  rw [Addr.add_lit] at h
  refine ⟨b, off, rfl, ?_⟩
  rcases Nat.lt_or_ge b w.heap.size with hl | hl
  · exact hl
  · simp [World.cell?, Array.getElem?_eq_none hl] at h

theorem u8_bounds {a : Int} (h : (Lit.int .u8 a).wf = true) : 0 ≤ a ∧ a ≤ 255 := by
  simp only [Lit.wf, decide_eq_true_eq, Bool.and_eq_true] at h
  exact h
theorem u16_bounds {a : Int} (h : (Lit.int .u16 a).wf = true) : 0 ≤ a ∧ a ≤ 65535 := by
  simp only [Lit.wf, decide_eq_true_eq, Bool.and_eq_true] at h
  exact h

theorem u8s_of {H : Type} {enc : TypeId × Value → H} {W : World} {fuel : Nat} {v : Value} {x : DataW H × List MemPlace} (h : DataW.trod enc Ybad.prog W 0 (fun _ => true) true fuel 22 [v] = some x) :
    ∃ (a : Option Addr) (n c : Nat) (D : Nat → Nat), v = .slice a n c ∧ ∀ i, i < n → ∃ (b off : Nat), a = some ⟨b, off, none⟩ ∧ b < W.heap.size ∧ W.cell? ⟨b, off + i, none⟩ = some (.int .u8 ((D i : Nat) : Int)) ∧ D i ≤ 255 := by
  rcases open_ints Ybad.underlying22 Ybad.underlying5 (by kernel_rfl) h with ⟨hcs, _⟩ | ⟨y, l, c, zs, hcs, _, hl, hm, hz, _, hcell, hwz⟩
  · simp at hcs
    exact ⟨none, 0, 0, fun _ => 0, hcs, fun i hi => by omega⟩
  · simp at hcs
    refine ⟨some y, l, c, fun i => (zs.getD i 0).toNat, hcs, fun i hi => ?_⟩
    have hz' : zs.length = c := by simpa using hz
    obtain ⟨b, off, rfl, hb⟩ := plain_addr (hcell 0 (by omega))
    have hc := hcell i (by omega)
    rw [Addr.add_lit] at hc
    have hw := u8_bounds (hwz (zs.getD i 0) (by rw [List.getD_eq_getElem?_getD, List.getElem?_eq_getElem (by omega)]; simp))
    refine ⟨b, off, rfl, hb, ?_, ?_⟩
    · rw [hc, Int.toNat_of_nonneg hw.1]
    · show (zs.getD i 0).toNat ≤ 255
      omega
theorem u16s_of {H : Type} {enc : TypeId × Value → H} {W : World} {fuel : Nat} {v : Value} {x : DataW H × List MemPlace} (h : DataW.trod enc Ybad.prog W 0 (fun _ => true) true fuel 24 [v] = some x) :
    ∃ (a : Option Addr) (n c : Nat) (D : Nat → Nat), v = .slice a n c ∧ ∀ i, i < n → ∃ (b off : Nat), a = some ⟨b, off, none⟩ ∧ b < W.heap.size ∧ W.cell? ⟨b, off + i, none⟩ = some (.int .u16 ((D i : Nat) : Int)) ∧ D i ≤ 65535 := by
  rcases open_ints Ybad.underlying24 Ybad.underlying23 (by kernel_rfl) h with ⟨hcs, _⟩ | ⟨y, l, c, zs, hcs, _, hl, hm, hz, _, hcell, hwz⟩
  · simp at hcs
    exact ⟨none, 0, 0, fun _ => 0, hcs, fun i hi => by omega⟩
  · simp at hcs
    refine ⟨some y, l, c, fun i => (zs.getD i 0).toNat, hcs, fun i hi => ?_⟩
    have hz' : zs.length = c := by simpa using hz
    obtain ⟨b, off, rfl, hb⟩ := plain_addr (hcell 0 (by omega))
    have hc := hcell i (by omega)
    rw [Addr.add_lit] at hc
    have hw := u16_bounds (hwz (zs.getD i 0) (by rw [List.getD_eq_getElem?_getD, List.getElem?_eq_getElem (by omega)]; simp))
    refine ⟨b, off, rfl, hb, ?_, ?_⟩
    · rw [hc, Int.toNat_of_nonneg hw.1]
    · show (zs.getD i 0).toNat ≤ 65535
      omega

section
variable {H : Type} {enc : TypeId × Value → H} {P : Program} {w : World} {base : Nat} {spare : Nat → Bool} {held : Bool}
theorem trodAll_five {t t' t'' t3 t4 : TypeId} {args : Array Value} {ds : List (DataW H)} {ps : List MemPlace} (h : DataW.TrodAll enc P w base spare held [t, t', t'', t3, t4] args.toList ds ps) :
    ∃ v v' v'' v3 v4 d d' d'' d3 d4 p p' p'' p3 p4, args = #[v, v', v'', v3, v4] ∧ ds = [d, d', d'', d3, d4] ∧ ps = p ++ p' ++ p'' ++ p3 ++ p4 ∧ DataW.Trod enc P w base spare held t v d p ∧ DataW.Trod enc P w base spare held t' v' d' p' ∧ DataW.Trod enc P w base spare held t'' v'' d'' p'' ∧ DataW.Trod enc P w base spare held t3 v3 d3 p3 ∧ DataW.Trod enc P w base spare held t4 v4 d4 p4 := by
  obtain ⟨v, vs, d, ds', p, q, hargs, rfl, rfl, hd, hrest⟩ := trodAll_cons h
  obtain ⟨v', vs', d', ds'', p', q', rfl, rfl, rfl, hd', hrest'⟩ := trodAll_cons hrest
  obtain ⟨v'', vs'', d'', ds''', p'', q'', rfl, rfl, rfl, hd'', hrest''⟩ := trodAll_cons hrest'
  obtain ⟨v3, vs3, d3, ds3, p3, q3, rfl, rfl, rfl, hd3, hrest3⟩ := trodAll_cons hrest''
  obtain ⟨v4, vs4, d4, ds4, p4, q4, rfl, rfl, rfl, hd4, hrest4⟩ := trodAll_cons hrest3
  obtain ⟨rfl, rfl, rfl⟩ := trodAll_nil hrest4
  exact ⟨v, v', v'', v3, v4, d, d', d'', d3, d4, p, p', p'', p3, p4, by cases args; simp_all, rfl, by simp, hd, hd', hd'', hd3, hd4⟩
theorem trodAll_mk5 {t t' t'' t3 t4 : TypeId} {v v' v'' v3 v4 : Value} {d d' d'' d3 d4 : DataW H} {p p' p'' p3 p4 : List MemPlace} (h : DataW.Trod enc P w base spare held t v d p) (h' : DataW.Trod enc P w base spare held t' v' d' p')
    (h'' : DataW.Trod enc P w base spare held t'' v'' d'' p'') (h3 : DataW.Trod enc P w base spare held t3 v3 d3 p3) (h4 : DataW.Trod enc P w base spare held t4 v4 d4 p4) : DataW.TrodAll enc P w base spare held [t, t', t'', t3, t4] [v, v', v'', v3, v4] [d, d', d'', d3, d4] (p ++ (p' ++ (p'' ++ (p3 ++ p4)))) := ⟨p, p' ++ (p'' ++ (p3 ++ p4)), h, trodAll_mk4 h' h'' h3 h4, rfl⟩
end

/-- The settled world, the table (block 0) holding what its initialiser lays: the witness. -/
noncomputable def laidWorld (os : Os) : World :=
  { World.holding Ybad.prog os ⟨#[], #[], []⟩ with heap := (World.holding Ybad.prog os ⟨#[], #[], []⟩).heap.modify 0 fun
      | .cells _ t frozen => .cells (tabZs.map fun z => Value.int .u8 z).toArray t frozen
      | o => o }
theorem laid_met (os : Os) (args : Array Value) : laidMet Ybad.prog Rows.lawS0177AWalkRow.laid ((laidWorld os).forCall (fun _ _ => 0) ⟨#[], args, []⟩).memory :=
  laidMet_of_run' 8 (by kernel_rfl) (by kernel_rfl)

set_option maxRecDepth 100000 in
theorem lifted (os : Os) (started : os.Started) (H : Type) (enc : TypeId × Value → H) :
    ReturnsInHanded {} Ybad.checked os 3 .any (fun w args => (Rows.lawS0177AWalkSpec.pre enc Ybad.prog Ybad.f3 Rows.lawS0177AWalkRow.domain false w args ∧ laidMet Ybad.prog Rows.lawS0177AWalkRow.laid w) ∧ sizedMet enc Ybad.prog Ybad.f3 (OpenSpec.ofChange Rows.lawS0177AWalkSpec) false w args)
      (Rows.lawS0177AWalkSpec.post enc Ybad.prog Ybad.f3 false true false false) := by
  refine returnsInHanded_of_change_and (C := Ybad.checked) (X := fun w _ => laidMet Ybad.prog Rows.lawS0177AWalkRow.laid w) (fun _ _ _ hh h => h.of_heap hh) own started (by kernel_rfl) Ybad.func3
    (ChangeSpec.witness_at (enc := enc) (C := Ybad.checked) (os := os) (X := fun w _ => laidMet Ybad.prog Rows.lawS0177AWalkRow.laid w) false (laidWorld os) #[.slice none 0 0, .string ByteArray.empty, .int .u16 0, .int .u16 0, .slice none 0 0] 8 rfl (by kernel_rfl) (by kernel_rfl) (by kernel_rfl) (by kernel_rfl) (by kernel_rfl) (laid_met os _)) ?_
  intro W base args ds gs before hval0 hW hcnd0 _ hL _
  have hval : ∀ (j : Nat) t v, Ybad.f3.params[j]? = some t → args[j]? = some v → Value.okWide Ybad.prog W .any base t v := hval0
  have hW' := hW
  obtain ⟨p, q, hA0, hV, rfl, hfz, hnd⟩ := hW
  have hA : DataW.TrodAll enc Ybad.prog W 0 (fun _ => true) true Ybad.f3.params.toList args.toList ds p := hA0
  rw [Ybad.params3] at hA hval
  obtain ⟨v0, v1, v2, v3, v4, d0, d1, d2, d3, d4, p0, p1, p2, p3, p4, rfl, rfl, rfl, h0, h1, h2, h3, h4⟩ := trodAll_five hA
  obtain ⟨rfl, rfl⟩ := trodVars_none hV
  obtain ⟨aD0, nD0, cD0, rfl⟩ := okWide_slice Ybad.underlying22 (hval 0 22 v0 rfl rfl)
  obtain ⟨aK0, nK0, cK0, rfl⟩ := okWide_slice Ybad.underlying24 (hval 4 24 v4 rfl rfl)
  have k0 := h0
  have lt0 : ∀ x ∈ p0, x.block < W.heap.size := by obtain ⟨m, hm⟩ := k0; exact DataW.trod_lt m _ _ _ hm
  have k4 := h4
  have lt4 : ∀ x ∈ p4, x.block < W.heap.size := by obtain ⟨m, hm⟩ := k4; exact DataW.trod_lt m _ _ _ hm
  obtain ⟨f0, hf0⟩ := h0
  obtain ⟨aD, n, cD, D, hvD, hD⟩ := u8s_of hf0
  obtain ⟨f4, hf4⟩ := h4
  obtain ⟨aK, nK, cK, Kf, hvK, hK⟩ := u16s_of hf4
  obtain ⟨s, rfl, rfl, rfl, ws⟩ := open_string Ybad.underlying9 (hval 1 9 v1 rfl rfl) h1
  obtain ⟨a2, rfl, rfl, rfl, w2⟩ := open_int Ybad.underlying23 (hval 2 23 v2 rfl rfl) h2
  obtain ⟨a3, rfl, rfl, rfl, w3⟩ := open_int Ybad.underlying23 (hval 3 23 v3 rfl rfl) h3
  clear hA0 hval0
  have b2 := u16_bounds w2
  have b3 := u16_bounds w3
  obtain ⟨ps, rfl⟩ : ∃ ps : Nat, a2 = (ps : Int) := ⟨a2.toNat, by omega⟩
  obtain ⟨cs, rfl⟩ : ∃ cs : Nat, a3 = (cs : Int) := ⟨a3.toNat, by omega⟩
  simp only [Value.slice.injEq] at hvD hvK
  obtain ⟨rfl, rfl, rfl⟩ := hvD
  obtain ⟨rfl, rfl, rfl⟩ := hvK
  refine (law_any W s D aD0 aK0 nD0 cD0 nK0 cK0 Kf ps cs (by omega) (by omega) ⟨hD, hK, tab_of_laid hL⟩).mono fun e W' ⟨he, bel⟩ => ?_
  subst he
  exact ⟨_, rfl, _, _, _, [], _, [], hW', trodAll_mk1 (shut_bool Ybad.underlying4 _), (trodAll_mk5 (Below.trod laidOut (by kernel_rfl) (of_decide_eq_true (by kernel_rfl)) k0 bel lt0) (shut_string Ybad.underlying9 ws) (shut_int Ybad.underlying23 w2) (shut_int Ybad.underlying23 w3) (Below.trod laidOut (by kernel_rfl) (of_decide_eq_true (by kernel_rfl)) k4 bel lt4)), rfl, bel.frame _, fun h => by cases h⟩

theorem over : Rows.lawS0177AWalkRow.holds Ybad.pinned (OpenSpec.ofChange Rows.lawS0177AWalkSpec) :=
  OpenClaim.holds_of_wide 3 Ybad.f3 rfl rfl rfl rfl rfl rfl rfl ⟨rfl, rfl, rfl, rfl, rfl⟩ rfl rfl rfl rfl rfl (by kernel_rfl) Ybad.func3 (by kernel_rfl)
    (of_decide_eq_true (by kernel_rfl)) (by unfold Func.isWrapper; first | (rw [if_pos (by decide +kernel)]; kernel_rfl) | (rw [if_neg (by decide +kernel)]; exact ⟨rfl, rfl⟩))
    (fun os started H enc _ => lifted os started H enc)
end Wlk
end Go.Proofs.YbulkcqiDoor
