import Derived.Test.YbulkcosIter
namespace Go.Proofs.Ybulkcos
open Go.RowKit Go.Shelf
set_option linter.unusedVariables false
set_option linter.unusedSimpArgs false
attribute [local go_sem] Oper.semAt_some

namespace Lkd

/-- 'for key := range seq { .. }' at an outermost loop, the invariant J of the loop's record, of what the iterator counts and of the world; a body that goes on and changes nothing. -/
theorem range_law {F : Fence} {n : Nat} {P : Program} {g : Operand} {ps : Array Tmp} {assign body : Code} {Q : Exit → Act → World → Prop} {a : Act} {w : World}
    (hro : F.round = none) (h1 : 1 ≤ n) {gf : Nat} {lb : Array Value} (hg : a.eval g = .func (.func gf) #[] lb) (hFg : F.fn gf) (eg : ∀ args w, (callFunc gf args).run P w = .ok (.enter gf args) w)
    (D len : Nat) (hD : w.heap.size = D) (hps : ps.size = 1)
    (J : Loop → Int → Nat → World → Prop)
    (hJlo : ∀ rec c k W, J rec c k W → W.heap[D + 1]? = some (.loop rec))
    (hJput : ∀ rec rec' c k W, J rec c k W → J rec' c k (W.putObj (D + 1) (.loop rec')))
    (hstart : ∀ rec, J rec 0 0 ((w.alloc (.deferred (some []))).alloc (.loop rec)))
    (hiter : ∀ rec, (∀ k s W, J rec 1 (k + 1) W → YieldAt F (n - 1 - 1) P (D + 1) #[.string s] W fun e W' => e = .returned (.bool true) ∧ J rec 1 (k + 1) W') → ∀ W, J rec 0 0 W →
      CallsIn F (n - 1) P gf (#[.func (.yield (D + 1)) #[] #[]] ++ lb) W fun e W' => (∃ v, e = .returned v) ∧ J rec 1 len W')
    (a₁ : ByteArray → Act)
    (hassign : ∀ (l : Nat) (s : ByteArray) (W : World) (K : Act → World → Prop), K (a₁ s) W →
      assign.wpIn (F.inRound l) (n - 1 - 1) P (Exit.then K (fun _ _ _ => False)) { tmps := (ps.zip #[.string s]).foldl (fun t (p, v) => t.setIfInBounds p v) a.tmps, defers := [] } W)
    (hbody : ∀ (l : Nat) (s : ByteArray) (rec : Loop) (k : Nat) (W : World), J rec 1 (k + 1) W → body.wpIn (F.inRound l) (n - 1 - 1) P (fun e _ W' => e = .normal ∧ W' = W) (a₁ s) W)
    (hdone : ∀ rec W, J rec 1 len W → Q .normal { a with defers := { target := .collected D, args := #[] } :: a.defers } W) :
    (Code.rangeFunc g ps assign body).wpIn F n P Q a w := by
  subst hD
  refine wpIn_rangeFunc ?_
  intro fn hfn
  rw [hro]
  obtain ⟨rec, hrec⟩ : ∃ rec : LoopState → Option Code → Loop, rec = fun st pe => { state := st, pending := pe, fn, tmps := a.tmps, params := ps, assign, body, defers := w.heap.size } := ⟨_, rfl⟩
  obtain ⟨W1, hW1⟩ : ∃ W1, (w.alloc (.deferred (some []))).alloc (.loop (rec .ready none)) = W1 := ⟨_, rfl⟩
  refine ⟨w.heap.size + 1, [{ target := .collected w.heap.size, args := #[] }], W1, { target := .fn (.func gf) lb, args := #[.func (.yield (w.heap.size + 1)) #[] #[]] }, W1, gf,
    #[.func (.yield (w.heap.size + 1)) #[] #[]] ++ lb, W1, ?_, ?_, ?_, ?_, fun _ => h1, ?_⟩
  · rw [← hW1, hrec]; exact run_enterLoop_outer _ _ _ _ _
  · simp only [resolve, hg]
    simp [go_sem]
  · intro f' hf'; simp [Target.leads] at hf'; subst hf'; exact hFg
  · simp [invoke, go_sem, eg]
  · refine (hiter (rec .ready none) ?_ W1 (by rw [← hW1]; exact hstart _)).mono ?_
    · rintro k s W hj
      have hl := hJlo _ _ _ _ hj
      have hy := run_yield (P := P) (args := #[.string s]) hl (by rw [hrec]; simp [hps])
      rw [hrec] at hy
      refine ⟨fn, _, assign, body, hy, roundIn_of_wpIn hfn (hassign _ s W _ ⟨_, run_beginRound hl (by rw [hrec]), ?_⟩)⟩
      have hj2 := hJput (rec .ready none) { rec .ready none with state := .busy } 1 (k + 1) W hj
      refine wpIn_mono (hbody _ s _ k _ hj2) ?_
      rintro e a3 W3 ⟨rfl, rfl⟩
      have hl3 := hJlo _ _ _ _ hj2
      refine ⟨_, _, run_endRound (P := P) none hl3, rfl, ?_⟩
      have := hJput _ (rec .ready none) 1 (k + 1) _ hj2
      rw [hrec] at this ⊢
      exact this
    · rintro e W2 ⟨⟨v, rfl⟩, hj⟩
      have hl := hJlo _ _ _ _ hj
      refine ⟨none, _, by have := run_endLoop (P := P) hl (by rw [hrec]; simp); rw [hrec] at this; exact this, hdone _ _ (hJput _ _ _ _ _ hj)⟩

theorem nil_lookup (s : ByteArray) (w : World) : (Instr.lookup 49 (.map none) (.string s) false).run Yba.prog w = .ok (.pointer none) w := by kernel_rfl

set_option maxRecDepth 100000 in
set_option maxHeartbeats 2000000 in
/-- (*lock.Table).Locked over an empty table: false; the sequence is run once, and every key is drawn from it. -/
theorem table_in (F : Fence) (n : Nat) (h35 : F.fn 35) (h15 : F.fn 15) (hro : F.round = none) (hn : 3 ≤ n) (Lk C K S b off len cap : Nat) (ao : Option Addr) (w : World) (hlen : len ≤ 1024) (hao : 0 < len → ao = some ⟨b, off, none⟩)
    (bC : Blk w C #[.int .i64 0] 3) (bS : Blk w S #[.int .i64 0] 3) (bK : Blk w K #[.slice ao len cap] 41) (hm : w.cell? ⟨Lk, 4, none⟩ = some (.map none)) (hLk : Lk < w.heap.size)
    (hCS : C ≠ S) (hKC : K ≠ C) (hKS : K ≠ S) (hLC : Lk ≠ C) (hLS : Lk ≠ S)
    (hk : ∀ i, i < len → b < w.heap.size ∧ b ≠ C ∧ b ≠ S ∧ ∃ s, w.cell? ⟨b, off + i, none⟩ = some (.string s)) :
    CallsIn F n Yba.prog 35 #[.pointer (some ⟨Lk, 3, none⟩), .func (.func 15) #[] #[.pointer (some ⟨C, 0, none⟩), .pointer (some ⟨K, 0, none⟩), .pointer (some ⟨S, 0, none⟩)]] w
      fun e w' => e = .returned (.bool false) ∧ Kb C S w w' ∧ Blk w' C #[.int .i64 1] 3 ∧ Blk w' S #[.int .i64 len] 3 := by
  have h1 : 1 ≤ n := by omega
  refine callsIn_of_wp_marks Yba.func35 rfl h35 ?_ hro
  simp only [Yba.ntmps35, List.size_toArray, List.length_cons, List.length_nil, Nat.reduceAdd, Nat.reduceSub, Array.replicate_succ, Array.replicate_zero, List.push_toArray, List.append_toArray, List.nil_append, List.cons_append]
  gi_wp2
  refine range_law hro h1 (gf := 15) (lb := #[.pointer (some ⟨C, 0, none⟩), .pointer (some ⟨K, 0, none⟩), .pointer (some ⟨S, 0, none⟩)]) rfl h15 (enters_of Yba.func15 (by kernel_rfl) rfl) (w.heap.size + 2) len (by simp) rfl
    (fun rec c k W => JJ w C S rec ⟨Lk, 3, none⟩ c k W) (fun rec c k W h => h.lo) (fun rec rec' c k W h => h.put bC.lt bS.lt) ?start ?iter
    (fun s => { tmps := #[.pointer (some ⟨Lk, 3, none⟩), .func (.func 15) #[] #[.pointer (some ⟨C, 0, none⟩), .pointer (some ⟨K, 0, none⟩), .pointer (some ⟨S, 0, none⟩)], .pointer (some ⟨w.heap.size, 0, none⟩), undef, .pointer (some ⟨w.heap.size + 1, 0, none⟩), .string s, undef, .func (.func 15) #[] #[.pointer (some ⟨C, 0, none⟩), .pointer (some ⟨K, 0, none⟩), .pointer (some ⟨S, 0, none⟩)], .string s, undef, undef, undef, undef, undef, undef, undef, undef, undef, undef, undef, undef, undef, undef, undef, undef], defers := [] }) ?assign ?body ?done
  case start =>
    intro rec
    have k0 : Kb C S w ((((w.alloc (.cells #[.pointer (some ⟨Lk, 3, none⟩)] 99)).alloc (.cells #[.bool false] 4)).alloc (.deferred (some []))).alloc (.loop rec)) := ((((Kb.refl C S w).alloc _).alloc _).alloc _).alloc _
    have t1 := Blk.new w #[.pointer (some ⟨Lk, 3, none⟩)] 99
    have t2 := Blk.new (w.alloc (.cells #[.pointer (some ⟨Lk, 3, none⟩)] 99)) #[.bool false] 4
    have t3 := World.alloc_heap_new ((w.alloc (.cells #[.pointer (some ⟨Lk, 3, none⟩)] 99)).alloc (.cells #[.bool false] 4)) (.deferred (some []))
    have t4 := World.alloc_heap_new (((w.alloc (.cells #[.pointer (some ⟨Lk, 3, none⟩)] 99)).alloc (.cells #[.bool false] 4)).alloc (.deferred (some []))) (.loop rec)
    simp only [World.size_alloc] at t2 t3 t4
    exact ⟨k0, (((bC.alloc _).alloc _).alloc _).alloc _, (((bS.alloc _).alloc _).alloc _).alloc _, ((t1.alloc _).alloc _).alloc _, (t2.alloc _).alloc _, heap_alloc_old t3 _, t4⟩
  case iter =>
    intro rec hY W h0
    exact iter_in F (n - 1) h15 hro (by omega) (w.heap.size + 3) C K S b off len cap ao (fun c k W => JJ w C S rec ⟨Lk, 3, none⟩ c k W) hlen hao
      (fun c k W h => ⟨h.calls, h.seen, h.kb.blk bK hKC hKS, fun i hi => by
        obtain ⟨q1, q2, q3, s, hs⟩ := hk i hi
        exact ⟨s, (h.kb.cell (a := ⟨b, off + i, none⟩) q1 q2 q3).trans hs⟩⟩)
      (fun k W h => h.setC bC.lt hCS) (fun c k W h => h.setS bS.lt hCS _ (by omega)) hY W h0
  case assign =>
    intro l s W K hK
    gi_wp2
    exact hK
  case body =>
    rintro l s rec k W hj
    have c1 : W.cell? ⟨w.heap.size, 0, none⟩ = some (.pointer (some ⟨Lk, 3, none⟩)) := hj.tb.cell 0
    have c2 : W.cell? ⟨Lk, 4, none⟩ = some (.map none) := (hj.kb.cell (a := ⟨Lk, 4, none⟩) hLk hLC hLS).trans hm
    have hnl := nil_lookup s
    clear hj
    gi_wp2
  case done =>
    rintro rec W hj
    have cR : W.cell? ⟨w.heap.size + 1, 0, none⟩ = some (.bool false) := hj.rb.cell 0
    have fR := hj.rb.free 0
    have HJ : Hid _ := hj
    clear hj
    gi_wp2
    have hK' : (W.setCell ⟨w.heap.size + 1, 0, none⟩ (.bool false)).heap[w.heap.size + 2]? = some (.deferred (some [])) := heap_set_other HJ.out.de (by omega) _ _
    refine ⟨by simp, .inl ⟨_, _, rfl, run_takeDeferred hK', ?_⟩⟩
    have r1 : Blk ((W.setCell ⟨w.heap.size + 1, 0, none⟩ (.bool false)).putObj (w.heap.size + 2) (.deferred none)) (w.heap.size + 1) #[.bool false] 4 := (HJ.out.rb.set 0 _).put (by omega) _
    have hc5 := r1.cell 0
    refine ⟨.bool false, ?_, rfl, (HJ.out.kb.setCell _ 0 _ (.inr (.inr (by omega)))).putObj _ _ (by omega), (HJ.out.calls.other (by have := bC.lt; omega) _ _).put (by have := bC.lt; omega) _, (HJ.out.seen.other (by have := bS.lt; omega) _ _).put (by have := bS.lt; omega) _⟩
    simp [results, Yba.f35, go_sem, hc5]

/-- The same as a plain contract. -/
theorem table_any (Lk C K S b off len cap : Nat) (ao : Option Addr) (w : World) (hlen : len ≤ 1024) (hao : 0 < len → ao = some ⟨b, off, none⟩)
    (bC : Blk w C #[.int .i64 0] 3) (bS : Blk w S #[.int .i64 0] 3) (bK : Blk w K #[.slice ao len cap] 41) (hm : w.cell? ⟨Lk, 4, none⟩ = some (.map none)) (hLk : Lk < w.heap.size)
    (hCS : C ≠ S) (hKC : K ≠ C) (hKS : K ≠ S) (hLC : Lk ≠ C) (hLS : Lk ≠ S)
    (hk : ∀ i, i < len → b < w.heap.size ∧ b ≠ C ∧ b ≠ S ∧ ∃ s, w.cell? ⟨b, off + i, none⟩ = some (.string s)) :
    Calls Yba.prog 35 #[.pointer (some ⟨Lk, 3, none⟩), .func (.func 15) #[] #[.pointer (some ⟨C, 0, none⟩), .pointer (some ⟨K, 0, none⟩), .pointer (some ⟨S, 0, none⟩)]] w
      fun e w' => e = .returned (.bool false) ∧ Kb C S w w' ∧ Blk w' C #[.int .i64 1] 3 ∧ Blk w' S #[.int .i64 len] 3 :=
  (callsIn_wide (n := 3)).1 (table_in Fence.wide 3 trivial trivial rfl (by omega) Lk C K S b off len cap ao w hlen hao bC bS bK hm hLk hCS hKC hKS hLC hLS hk)

set_option maxHeartbeats 400000 in
theorem locks_any (Lk C K S b off len cap : Nat) (ao : Option Addr) (w : World) (hlen : len ≤ 1024) (hao : 0 < len → ao = some ⟨b, off, none⟩)
    (bC : Blk w C #[.int .i64 0] 3) (bS : Blk w S #[.int .i64 0] 3) (bK : Blk w K #[.slice ao len cap] 41) (hm : w.cell? ⟨Lk, 4, none⟩ = some (.map none)) (hLk : Lk < w.heap.size)
    (hCS : C ≠ S) (hKC : K ≠ C) (hKS : K ≠ S) (hLC : Lk ≠ C) (hLS : Lk ≠ S)
    (hk : ∀ i, i < len → b < w.heap.size ∧ b ≠ C ∧ b ≠ S ∧ ∃ s, w.cell? ⟨b, off + i, none⟩ = some (.string s)) :
    Calls Yba.prog 26 #[.pointer (some ⟨Lk, 2, none⟩), .func (.func 15) #[] #[.pointer (some ⟨C, 0, none⟩), .pointer (some ⟨K, 0, none⟩), .pointer (some ⟨S, 0, none⟩)]] w
      fun e w' => e = .returned (.bool false) ∧ Kb C S w w' ∧ Blk w' C #[.int .i64 1] 3 ∧ Blk w' S #[.int .i64 len] 3 := by
  have HT : Hid _ := table_any Lk C K S b off len cap ao w hlen hao bC bS bK hm hLk hCS hKC hKS hLC hLS hk
  clear hk bC bS bK hm hao
  go_enter Yba.func26, Yba.ntmps26
  go_wp2_with (go_at_call 35; refine Calls.mono HT.out ?_; rintro e w' ⟨rfl, h1, h2, h3⟩)
  go_ret
  exact ⟨rfl, by assumption, by assumption, by assumption⟩

end Lkd
end Go.Proofs.Ybulkcos
