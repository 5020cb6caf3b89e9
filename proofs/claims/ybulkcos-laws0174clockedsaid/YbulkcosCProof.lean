import Derived.Test.YbulkcosCLaw
import Derived.ProofKit
import Derived.SliceStrings
import Derived.ShutString
import Derived.ChangeOld
import Derived.Below
namespace Go.Proofs.Ybulkcos
open Go.ChangeShapes Go.WideShapes Go.ChangeAt Go.RowKit
set_option linter.unusedVariables false

namespace Lkd
theorem own : ownKnob Yba.prog.godebug = none := by kernel_rfl
theorem laidOut : laidOutB Yba.prog = true := by kernel_rfl

theorem keys_of {w : World} {x : Addr} {len cap : Nat} {ss : List ByteArray} (hl : len ≤ cap) (hz : ss.length = cap) (hcell : ∀ i, i < ss.length → w.cell? (x.add i) = some (.string (ss.getD i ByteArray.empty))) : Keys w (some x) len := by
  by_cases h0 : len = 0
  · exact .inl h0
  · right
    obtain ⟨b, off, sp⟩ := x
    have h1 := hcell 0 (by omega)
    obtain rfl : sp = none := by
      cases sp with
      | none => rfl
      | some s =>
        exfalso
        unfold World.cell? at h1
        split at h1
        · simp [Addr.add] at h1
        · cases h1
    refine ⟨b, off, rfl, ?_, fun i hi => ?_⟩
    · rw [Addr.add_lit] at h1
      rcases Nat.lt_or_ge b w.heap.size with h | h
      · exact h
      · simp [World.cell?, Array.getElem?_eq_none h] at h1
    · have h2 := hcell i (by omega)
      rw [Addr.add_lit] at h2
      exact ⟨_, h2⟩

set_option maxRecDepth 100000 in
theorem lifted (os : Os) (started : os.Started) (H : Type) (enc : TypeId × Value → H) :
    ReturnsInHanded {} Yba.checked os 6 .any (Rows.lawS0174CLockedSpec.pre6 enc Yba.prog Yba.f6 Rows.lawS0174CLockedRow.domain false) (Rows.lawS0174CLockedSpec.post enc Yba.prog Yba.f6 false true false false) := by
  refine returnsInHanded_of_change (C := Yba.checked) own started (by kernel_rfl) Yba.func6
    (ChangeSpec.witness6 (enc := enc) (C := Yba.checked) false ⟨#[], #[.int .i64 0, .slice none 0 0], []⟩ 8 (by kernel_rfl) (by kernel_rfl) (by kernel_rfl) (by kernel_rfl)) ?_
  intro W base args ds gs before hval0 hW hcnd _
  have hval : ∀ (j : Nat) t v, Yba.f6.params[j]? = some t → args[j]? = some v → Value.okWide Yba.prog W .any base t v := hval0
  have hW' := hW
  obtain ⟨p, q, hA0, hV, rfl, hfz, hnd⟩ := hW
  have hA : DataW.TrodAll enc Yba.prog W 0 (fun _ => true) true Yba.f6.params.toList args.toList ds p := hA0
  rw [Yba.params6] at hA hval
  obtain ⟨v0, v1, d0, d1, p0, p1, rfl, rfl, rfl, h0, h1⟩ := trodAll_two hA
  obtain ⟨rfl, rfl⟩ := trodVars_none hV
  obtain ⟨r, rfl, rfl, rfl, w0⟩ := open_int Yba.underlying2 (hval 0 2 v0 rfl rfl) h0
  obtain ⟨a0, len0, cap0, rfl⟩ := okWide_slice Yba.underlying41 (hval 1 41 v1 rfl rfl)
  have k0 := h1
  have lt0 : ∀ x ∈ p1, x.block < W.heap.size := by obtain ⟨m, hm⟩ := k0; exact DataW.trod_lt m _ _ _ hm
  have w1 : Keys W a0 len0 := by
    obtain ⟨fuel, hf⟩ := h1
    rcases open_strings Yba.underlying41 Yba.underlying9 (by kernel_rfl) hf with ⟨hcs, _⟩ | ⟨x, l, c, ss, hcs, _, hl, hm, hz, _, hcell, hws⟩
    · simp [Value.cells] at hcs
      obtain ⟨rfl, rfl, rfl⟩ := hcs
      exact .inl rfl
    · simp [Value.cells] at hcs
      obtain ⟨rfl, rfl, rfl⟩ := hcs
      exact keys_of hl (by simpa using hz) hcell
  clear hA0 hval0
  refine (law_any a0 len0 cap0 r W w1).mono fun e W' ⟨he, bel⟩ => ?_
  subst he
  exact ⟨_, rfl, _, _, _, [], _, [], hW', trodAll_mk1 (shut_bool Yba.underlying4 _), (trodAll_mk2 (shut_int Yba.underlying2 w0) (Below.trod laidOut (by kernel_rfl) (of_decide_eq_true (by kernel_rfl)) k0 bel lt0)), rfl, bel.frame _, fun h => by cases h⟩

theorem over : Rows.lawS0174CLockedRow.holds Yba.pinned (OpenSpec.ofChange Rows.lawS0174CLockedSpec) :=
  OpenClaim.holds_of_wide 6 Yba.f6 rfl rfl rfl rfl rfl rfl rfl ⟨rfl, rfl, rfl, rfl, rfl⟩ rfl rfl rfl rfl rfl (by kernel_rfl) Yba.func6 (by kernel_rfl)
    (of_decide_eq_true (by kernel_rfl)) (by unfold Func.isWrapper; first | (rw [if_pos (by decide +kernel)]; kernel_rfl) | (rw [if_neg (by decide +kernel)]; exact ⟨rfl, rfl⟩))
    (fun os started H enc _ => lifted os started H enc)
end Lkd

theorem lawS0174CLocked_proved : Rows.LawS0174CLockedSaid := Lkd.over
end Go.Proofs.Ybulkcos
