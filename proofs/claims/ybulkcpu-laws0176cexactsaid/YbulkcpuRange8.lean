import Derived.Test.YbulkcpuWalk11
namespace Go.Proofs.Ybulkcpu
open Go.RowKit Go.Shelf
set_option linter.unusedVariables false
set_option linter.unusedSimpArgs false
attribute [local go_sem] Oper.semAt_some

namespace Exa
theorem JI.put {w : World} {rec rec' : Loop} {W : World} (h : JI w rec W) : JI w rec' (W.putObj (w.heap.size + 1) (.loop rec')) :=
  ⟨h.os, h.tape, h.output, by have := h.size; simp; omega, fun k hk => (World.putObj_heap_other (by omega)).trans (h.block k hk), (World.putObj_heap_other (by omega)).trans h.de, World.putObj_heap_same (Array.getElem?_eq_some_iff.1 h.lo).1⟩
theorem JI.mark {w : World} {rec : Loop} {W : World} (h : JI w rec W) {b : Nat} (hb : b < w.heap.size) (i : Nat) (v : Value) : JI (w.setCell ⟨b, i, none⟩ v) rec (W.setCell ⟨b, i, none⟩ v) := by
  have hs : (w.setCell ⟨b, i, none⟩ v).heap.size = w.heap.size := by simp
  refine ⟨h.os, h.tape, h.output, by rw [hs]; have := h.size; simp; omega, fun k hk => ?_, ?_, ?_⟩
  · rw [hs] at hk
    have := h.block k hk
    simp [World.setCell, Array.getElem?_modify, this]
  · rw [hs]; exact heap_set_other h.de (by omega) _ _
  · rw [hs]; exact heap_set_other h.lo (by omega) _ _
theorem Keep.put {l : Nat} {W : World} {o : Obj} : Keep l W (W.putObj l o) := ⟨rfl, rfl, rfl, by simp, fun k hk => World.putObj_heap_other hk⟩
theorem Keep.trans {l : Nat} {A B C : World} (h : Keep l A B) (k : Keep l B C) : Keep l A C := ⟨k.os.trans h.os, k.tape.trans h.tape, k.output.trans h.output, k.size.trans h.size, fun j hj => (k.block j hj).trans (h.block j hj)⟩

/-- 'for s := range seq { if .. { return true } }' at an outermost loop. -/
theorem range_stop {n : Nat} {g : Operand} {ps : Array Tmp} {assign body : Code} {Q : Exit → Act → World → Prop} {a : Act} {w : World}
    (h1 : 1 ≤ n) {lb : Array Value} (hg : a.eval g = .func (.func 11) #[] lb) (eg : ∀ args w, (callFunc 11 args).run Yba.prog w = .ok (.enter 11 args) w)
    (hps : ps.size = 2) (Rb : Nat) (hRb : Rb < w.heap.size) (ss : List Nat) (A : Nat → Nat)
    (hiter : ∀ (rec : Loop) (X : World → Prop), (∀ p ∈ ss, ∀ (d : Int) (W : World), JI w rec W → YieldAt Fence.wide (n - 1 - 1) Yba.prog (w.heap.size + 1) #[ptrV p, .int .i64 d] W fun e W' => (e = .returned (.bool true) ∧ A p = 0 ∧ Keep (w.heap.size + 1) W W' ∧ JI w rec W') ∨ (e = .returned (.bool false) ∧ 0 < A p ∧ X W')) →
      ∀ W, JI w rec W → CallsIn Fence.wide (n - 1) Yba.prog 11 (#[.func (.yield (w.heap.size + 1)) #[] #[]] ++ lb) W (IPost w rec X ss A))
    (a₁ : Nat → Int → Act)
    (hassign : ∀ (l : Nat) (p : Nat) (d : Int) (W : World) (K : Act → World → Prop), K (a₁ p d) W →
      assign.wpIn (Fence.wide.inRound l) (n - 1 - 1) Yba.prog (Exit.then K (fun _ _ _ => False)) { tmps := (ps.zip #[ptrV p, .int .i64 d]).foldl (fun t (p, v) => t.setIfInBounds p v) a.tmps, defers := [] } W)
    (hbody : ∀ (l : Nat) (p : Nat) (d : Int) (rec : Loop) (W : World), p ∈ ss → JI w rec W →
      body.wpIn (Fence.wide.inRound l) (n - 1 - 1) Yba.prog (fun e _ W' => (e = .normal ∧ W' = W ∧ A p = 0) ∨ (e = .ret ∧ W' = W.setCell ⟨Rb, 0, none⟩ (.bool true) ∧ 0 < A p)) (a₁ p d) W)
    (hdone : ∀ rec W, JI w rec W → (∀ p ∈ ss, A p = 0) → Q .normal { a with defers := { target := .collected w.heap.size, args := #[] } :: a.defers } W)
    (hstop : ∀ rec W, JI (w.setCell ⟨Rb, 0, none⟩ (.bool true)) rec W → (∃ p ∈ ss, 0 < A p) → Code.ret.wpIn Fence.wide n Yba.prog Q { a with defers := { target := .collected w.heap.size, args := #[] } :: a.defers } W) :
    (Code.rangeFunc g ps assign body).wpIn Fence.wide n Yba.prog Q a w := by
  refine wpIn_rangeFunc ?_
  intro fn hfn
  rw [show Fence.wide.round = none from rfl]
  obtain ⟨rec, hrec⟩ : ∃ rec : LoopState → Option Code → Loop, rec = fun st pe => { state := st, pending := pe, fn, tmps := a.tmps, params := ps, assign, body, defers := w.heap.size } := ⟨_, rfl⟩
  obtain ⟨W1, hW1⟩ : ∃ W1, (w.alloc (.deferred (some []))).alloc (.loop (rec .ready none)) = W1 := ⟨_, rfl⟩
  have hJ1 : JI w (rec .ready none) W1 := by
    rw [← hW1]
    have t4 := World.alloc_heap_new (w.alloc (.deferred (some []))) (.loop (rec .ready none))
    simp only [World.size_alloc] at t4
    refine ⟨rfl, rfl, rfl, by simp, fun k hk => ?_, heap_alloc_old (World.alloc_heap_new w _) _, t4⟩
    rw [Array.getElem?_eq_getElem hk]
    exact heap_alloc_old (heap_alloc_old (Array.getElem?_eq_getElem hk) _) _
  refine ⟨w.heap.size + 1, [{ target := .collected w.heap.size, args := #[] }], W1, { target := .fn (.func 11) lb, args := #[.func (.yield (w.heap.size + 1)) #[] #[]] }, W1, 11,
    #[.func (.yield (w.heap.size + 1)) #[] #[]] ++ lb, W1, ?_, ?_, ?_, ?_, fun _ => h1, ?_⟩
  · rw [← hW1, hrec]; exact run_enterLoop_outer _ _ _ _ _
  · simp only [resolve, hg]
    simp [go_sem]
  · intro f' hf'; trivial
  · simp [invoke, go_sem, eg]
  · refine (hiter (rec .ready none) (fun W => JI (w.setCell ⟨Rb, 0, none⟩ (.bool true)) (rec .done (some .ret)) W) ?_ W1 hJ1).mono ?_
    · rintro p hp d W hj
      have hl := hj.lo
      have hy := run_yield (P := Yba.prog) (args := #[ptrV p, .int .i64 d]) hl (by rw [hrec]; simp [hps])
      rw [hrec] at hy
      refine ⟨fn, _, assign, body, hy, roundIn_of_wpIn hfn (hassign _ p d W _ ⟨_, run_beginRound hl (by rw [hrec]), ?_⟩)⟩
      have hj2 : JI w { rec .ready none with state := .busy } (W.putObj (w.heap.size + 1) (.loop { rec .ready none with state := .busy })) := hj.put
      refine wpIn_mono (hbody _ p d _ _ hp hj2) ?_
      rintro e a3 W3 (⟨rfl, rfl, hA⟩ | ⟨rfl, rfl, hA⟩)
      · have hl3 := hj2.lo
        refine ⟨_, _, run_endRound (P := Yba.prog) none hl3, .inl ⟨rfl, hA, ?_, ?_⟩⟩
        · exact Keep.put.trans Keep.put
        · have := hj2.put (rec' := rec .ready none)
          rw [hrec] at this ⊢
          exact this
      · have hj3 := hj2.mark hRb 0 (.bool true)
        have hs : (w.setCell ⟨Rb, 0, none⟩ (.bool true)).heap.size = w.heap.size := by simp
        have hl3 := hj3.lo
        rw [hs] at hl3
        refine ⟨_, _, run_endRound (P := Yba.prog) (some .ret) hl3, .inr ⟨rfl, hA, ?_⟩⟩
        have := hj3.put (rec' := rec .done (some .ret))
        rw [hs] at this
        rw [hrec] at this ⊢
        exact this
    · rintro e W2 ⟨⟨v, rfl⟩, ⟨hj, hA⟩ | ⟨hj, hA⟩⟩
      · have hl := hj.lo
        exact ⟨none, _, by have := run_endLoop (P := Yba.prog) hl (by rw [hrec]; simp); rw [hrec] at this; exact this, hdone _ _ hj.put hA⟩
      · have hs : (w.setCell ⟨Rb, 0, none⟩ (.bool true)).heap.size = w.heap.size := by simp
        have hl := hj.lo
        rw [hs] at hl
        have hend := run_endLoop (P := Yba.prog) hl (by rw [hrec]; simp)
        have hpend : (rec .done (some .ret)).pending = some .ret := by rw [hrec]
        rw [hpend] at hend
        refine ⟨some .ret, _, hend, hstop { rec .done (some .ret) with state := .exhausted, pending := some .ret } _ ?_ hA⟩
        have := hj.put (rec' := { rec .done (some .ret) with state := .exhausted, pending := some .ret })
        rw [hs] at this
        exact this
end Exa
end Go.Proofs.Ybulkcpu
