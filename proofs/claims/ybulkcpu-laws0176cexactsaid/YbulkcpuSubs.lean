import Derived.Test.YbulkcpuForest
namespace Go.Proofs.Ybulkcpu
open Go.RowKit
set_option linter.unusedVariables false
set_option linter.unusedSimpArgs false

namespace Exa
theorem own_grown {w w' : World} {r : Option Nat} {base : Nat} {e : TypeId} {size : Nat} {v : Value} {n : Nat} {xs : List Value} (ho : w.ownsRow base e size v n xs) (hg : w.grownBy w' r) (hne : ∀ k, v.ownBlock = some k → r ≠ some k) : w'.ownsRow base e size v n xs := by
  rcases ho with ⟨h0, ⟨rfl, rfl⟩ | ⟨g, cap, cur, rfl, h1, h2, h3⟩⟩
  · exact ⟨h0, .inl ⟨rfl, rfl⟩⟩
  · refine ⟨h0, .inr ⟨g, cap, cur, rfl, h1, ?_, h3⟩⟩
    rw [hg.block g (Array.getElem?_eq_some_iff.1 h2).1 (Ne.symm (hne g rfl))]
    exact h2
theorem Blk.grown {w w' : World} {r : Option Nat} {b : Nat} {arr : Array Value} {t : TypeId} (h : Blk w b arr t) (hg : w.grownBy w' r) (hne : r ≠ some b) : Blk w' b arr t := by
  unfold Blk at *
  rw [hg.block b (Array.getElem?_eq_some_iff.1 h).1 (Ne.symm hne)]
  exact h
theorem own_set {w : World} {base : Nat} {e : TypeId} {size : Nat} {v : Value} {n : Nat} {xs : List Value} (ho : w.ownsRow base e size v n xs) {b : Nat} (hne : v.ownBlock ≠ some b) (i : Nat) (u : Value) : (w.setCell ⟨b, i, none⟩ u).ownsRow base e size v n xs := by
  rcases ho with ⟨h0, ⟨rfl, rfl⟩ | ⟨g, cap, cur, rfl, h1, h2, h3⟩⟩
  · exact ⟨h0, .inl ⟨rfl, rfl⟩⟩
  · exact ⟨h0, .inr ⟨g, cap, cur, rfl, h1, heap_set_other h2 (fun e => hne (by simp [Value.ownBlock, e])) _ _, h3⟩⟩

/-- The slice subs: its first k places hold subgraphs; no row of the graph lies there. -/
def SubsAt (w : World) (S K k : Nat) (ss : List Nat) (V : Nat → Value) (vs : Value) : Prop :=
  ∃ arr, Blk w S arr 56 ∧ arr.size = K ∧ (∀ i, i < k → ∃ p ∈ ss, arr[i]? = some (ptrV p)) ∧ (∀ p ∈ ss, (V p).ownBlock ≠ some S) ∧ vs.ownBlock ≠ some S

/-- Between two rounds of the loop over Subs. -/
def SR (base I : Nat) (inA : Array Value) (W : World) (G S K k : Nat) (b : Bool) (w : World) : Prop :=
  ∃ (ao : Option Addr) (na cap : Nat) (vn ve vs vp : Value) (kss : List (List ByteArray)) (es qs ss Cr : List Nat) (C : Nat → List Nat) (V : Nat → Value) (A : Nat → Nat),
    GAt base G w ao na cap vn ve vs vp kss es qs ss Cr C V A ∧ Blk w I inA 33 ∧ Below base W w ∧ base ≤ G ∧ kss.length ≤ 300 ∧ es.length ≤ 300 ∧ ss.length ≤ k ∧ qs.length ≤ 0 ∧ (b = true ↔ Says na kss es ss A qs) ∧ SubsAt w S K k ss V vs ∧ base ≤ S

theorem SR.gi {base I : Nat} {inA : Array Value} {W : World} {G S K k : Nat} {b : Bool} {w : World} (h : SR base I inA W G S K k b w) (hk : k ≤ 300) : GI base I inA W G 300 300 300 0 b w := by
  obtain ⟨ao, na, cap, vn, ve, vs, vp, kss, es, qs, ss, Cr, C, V, A, g1, g2, g3, g4, g5, g6, g7, g8, g9, _⟩ := h
  exact ⟨ao, na, cap, vn, ve, vs, vp, kss, es, qs, ss, Cr, C, V, A, g1, g2, g3, g4, g5, g6, by omega, g8, g9⟩

section
variable {base I : Nat} {inA : Array Value} {W : World} {G S K k : Nat} {b : Bool} {w1 : World}
variable {ao : Option Addr} {na cap : Nat} {vn ve vs vp : Value} {kss : List (List ByteArray)} {es qs ss Cr : List Nat} {C : Nat → List Nat} {V : Nat → Value} {A : Nat → Nat}

theorem says_sub {ss' : List Nat} {p m : Nat} {bm : Bool} (hs : p ∉ ss) (h5 : b = true ↔ Says na kss es ss A qs) (hbm : bm = true ↔ b = true ∨ 0 < m) : bm = true ↔ Says na kss es (ss ++ [p]) (fun x => if x = p then m else A x) qs := by
  rw [hbm, h5]
  unfold Says
  constructor
  · rintro ((h | h | h | ⟨n, h, h'⟩ | h) | h)
    · exact .inl h
    · exact .inr (.inl h)
    · exact .inr (.inr (.inl h))
    · exact .inr (.inr (.inr (.inl ⟨n, by simp [h], by have e : ¬ n = p := fun e => hs (e ▸ h); simpa [e] using h'⟩)))
    · exact .inr (.inr (.inr (.inr h)))
    · exact .inr (.inr (.inr (.inl ⟨p, by simp, by simpa using h⟩)))
  · rintro (h | h | h | ⟨n, h, h'⟩ | h)
    · exact .inl (.inl h)
    · exact .inl (.inr (.inl h))
    · exact .inl (.inr (.inr (.inl h)))
    · rcases List.mem_append.1 h with h | h
      · have e : ¬ n = p := fun e => hs (e ▸ h)
        simp only [if_neg e] at h'
        exact .inl (.inr (.inr (.inr (.inl ⟨n, h, h'⟩))))
      · simp at h; subst h; simp only [if_pos] at h'; exact .inr h'
    · exact .inl (.inr (.inr (.inr (.inr h))))

theorem subs_set {w : World} {ss' : List Nat} {p : Nat} {V' : Nat → Value} {vs' : Value} (h : ∃ arr, Blk w S arr 56 ∧ arr.size = K ∧ (∀ i, i < k → ∃ p ∈ ss', arr[i]? = some (ptrV p))) (hp : p ∈ ss') (hk : k < K) (h4 : ∀ p ∈ ss', (V' p).ownBlock ≠ some S) (h5 : vs'.ownBlock ≠ some S) :
    SubsAt (w.setCell ⟨S, k, none⟩ (ptrV p)) S K (k + 1) ss' V' vs' := by
  obtain ⟨arr, h1, h2, h3⟩ := h
  refine ⟨_, h1.set k _, by simp [h2], ?_, h4, h5⟩
  intro i hi
  rw [Array.getElem?_setIfInBounds]
  by_cases he : k = i
  · subst he
    exact ⟨p, hp, by rw [if_pos rfl, if_pos (by omega)]⟩
  · rw [if_neg he]
    exact h3 i (by omega)

/-- A subgraph made in the graph itself. -/
theorem sub_root {w2 : World} {v' : Value} {p m : Nat} {ao' : Option Addr} {cap' : Nat} {bm : Bool} (g : GAt base G w1 ao na cap vn ve vs vp kss es qs ss Cr C V A) (hI : Blk w1 I inA 33) (hB : Below base W w1) (hb : base ≤ G) (hbS : base ≤ S) (hkK : k < K)
    (hS : SubsAt w1 S K k ss V vs) (hp : Blk w1 p (subArr ao' m cap' (.slice none 0 0)) 58) (hps : ∀ q ∈ ss, q < p) (hbp : base ≤ p)
    (hg : (w1.alloc (.cells #[ptrV p] 56)).grownBy w2 vs.ownBlock) (ho : w2.ownsRow base 56 1 v' (Cr.length + 1) (Cr.map ptrV ++ [ptrV p])) (hat : v'.ownBlock = vs.ownBlock ∨ v'.ownBlock = some (w1.alloc (.cells #[ptrV p] 56)).heap.size) (hbs : base ≤ w1.heap.size)
    (h1 : kss.length ≤ 300) (h2 : es.length ≤ 300) (h3 : ss.length ≤ k) (h4 : qs.length ≤ 0) (h5 : b = true ↔ Says na kss es ss A qs) (hbm : bm = true ↔ b = true ∨ 0 < m) :
    SR base I inA W G S K (k + 1) bm ((w2.setCell ⟨G, 6, none⟩ v').setCell ⟨S, k, none⟩ (ptrV p)) := by
  have hpn : p ∉ ss := fun h => Nat.lt_irrefl _ (hps p h)
  obtain ⟨arr, s1, s2, s3, s4, s5⟩ := hS
  have F := g.subs
  have k2 : Kp [56] w1 w2 := ((Kp.refl _ _).alloc _).grown (F.root.alloc _) hg (by decide)
  have hG2 := k2.block _ _ _ g.g (by decide)
  have k3 : Kp [45, 56] w1 (w2.setCell ⟨G, 6, none⟩ v') := (k2.wide (by simp)).setCell hG2 (by decide) _ _
  have S2 : Blk w2 S arr 56 := (s1.alloc _).grown hg s5
  have S3 : Blk (w2.setCell ⟨G, 6, none⟩ v') S arr 56 := S2.other (blk_ne hG2 S2 (by decide)) _ _
  have k4 : Kp [45, 56] w1 ((w2.setCell ⟨G, 6, none⟩ v').setCell ⟨S, k, none⟩ (ptrV p)) := k3.setCell S3 (by decide) _ _
  have v5 : v'.ownBlock ≠ some S := by
    rcases hat with h | h
    · rw [h]; exact s5
    · rw [h]; intro e; have e' := Option.some.inj e; have := s1.lt; simp at e'; omega
  have ne45 : ∀ {v : Value} {n : Nat} {xs : List Value}, w2.ownsRow base 56 1 v n xs → v.ownBlock ≠ some G := fun h => own_ne h hG2 (by decide)
  refine ⟨ao, na, cap, vn, ve, v', vp, kss, es, qs, ss ++ [p], Cr ++ [p], (fun x => if x = p then [] else C x), (fun x => if x = p then .slice none 0 0 else V x), (fun x => if x = p then m else A x),
    ⟨(hG2.set 6 _).other (blk_ne S3 (hG2.set 6 v') (by decide)) _ _, g.nodes.kp k4 (by decide) (fun p x h => h.kp k4 (by decide) (by decide)), g.edges.kp k4 (by decide) (fun p x h => h.kp k4 (by decide)), ?_, g.paths.kp k4 (by decide) (fun p x h => h.kp k4 (by decide))⟩,
    k4.block _ _ _ hI (by decide), ?_, hb, h1, h2, by simp; omega, h4, says_sub (ss' := ss) hpn h5 hbm, ?_, hbS⟩
  · refine ⟨?_, ?_, ?_, ?_, ?_, ?_, ?_, ?_, ?_, ?_, fun q hq => (List.mem_append.1 hq).elim (F.above q) (fun h => by simp at h; omega), ?_, ?_, ?_, ?_⟩
    · intro q hq
      by_cases e : q = p
      · subst e; simp only [if_pos]; exact ⟨ao', cap', k4.block _ _ _ hp (by decide)⟩
      · have hq' : q ∈ ss := by simpa [e] using hq
        obtain ⟨x, y, hb'⟩ := F.sub q hq'
        simp only [if_neg e]
        exact ⟨x, y, k4.block _ _ _ hb' (by decide)⟩
    · intro q hq
      by_cases e : q = p
      · subst e; simp only [if_pos]; exact World.ownsRow_nil _ _ _ _
      · have hq' : q ∈ ss := by simpa [e] using hq
        simp only [if_neg e]
        have r2 := own_grown ((F.row q hq').alloc _) hg (fun j hj => F.rootApart q hq' j hj)
        exact own_set (own_set r2 (ne45 r2) _ _) (s4 q hq') _ _
    · have r2 := own_set (own_set ho (ne45 ho) 6 v') v5 k (ptrV p)
      simpa using r2
    · intro q hq c hc
      by_cases e : q = p
      · subst e; simp at hc
      · have hq' : q ∈ ss := by simpa [e] using hq
        simp only [if_neg e] at hc
        have := F.kids q hq' c hc
        exact ⟨this.1, by simp [this.2]⟩
    · intro c hc
      rcases List.mem_append.1 hc with h | h
      · simp [F.rootKids c h]
      · simp at h; simp [h]
    · intro q hq
      by_cases e : q = p
      · subst e; left; simp
      · have hq' : q ∈ ss := by simpa [e] using hq
        rcases F.reach q hq' with h | ⟨z, hz, h⟩
        · left; simp [h]
        · right
          have e3 : ¬ z = p := fun e => hpn (e ▸ hz)
          exact ⟨z, by simp [hz], by simp only [if_neg e3]; exact h⟩
    · intro q hq
      by_cases e : q = p
      · subst e; simp
      · have hq' : q ∈ ss := by simpa [e] using hq
        simp only [if_neg e]
        have := F.small q hq'
        simp; omega
    · have := F.rootSmall; simp; omega
    · intro q hq z hz hne j hj
      by_cases e : q = p
      · subst e; simp [Value.ownBlock] at hj
      · by_cases e' : z = p
        · subst e'; simp [Value.ownBlock]
        · simp only [if_neg e, if_neg e'] at hj ⊢
          exact F.apart q (by simpa [e] using hq) z (by simpa [e'] using hz) hne j hj
    · intro q hq j hj
      by_cases e : q = p
      · subst e; simp [Value.ownBlock] at hj
      · simp only [if_neg e] at hj
        have hq' : q ∈ ss := by simpa [e] using hq
        rcases hat with h | h
        · rw [h]; exact F.rootApart q hq' j hj
        · rw [h]
          have := ((F.row q hq').lt j hj).2
          intro he
          have he' := Option.some.inj he
          simp at he'
          omega
    · rw [List.nodup_append]
      refine ⟨F.uroot, by simp, fun a ha c hc => ?_⟩
      simp at hc; subst hc
      rintro rfl
      exact hpn (F.rootKids _ ha)
    · intro q hq
      by_cases e : q = p
      · subst e; simp
      · simp only [if_neg e]; exact F.ukid q (by simpa [e] using hq)
    · intro q hq c hc
      by_cases e : q = p
      · subst e; simp at hc
      · have hq' : q ∈ ss := by simpa [e] using hq
        simp only [if_neg e] at hc
        intro h
        rcases List.mem_append.1 h with h | h
        · exact F.urk q hq' c hc h
        · simp at h; subst h; exact hpn (F.kids q hq' _ hc).2
    · intro q hq z hz hne c hc
      by_cases e : q = p
      · subst e; simp at hc
      · by_cases e' : z = p
        · subst e'; simp
        · simp only [if_neg e, if_neg e'] at hc ⊢
          exact F.ukk q (by simpa [e] using hq) z (by simpa [e'] using hz) hne c hc
  · exact (((hB.alloc hbs _).grown hg (by simp; omega) (fun j hj => (F.root.lt j hj).1)).setCell hb _).setCell hbS _
  · refine subs_set ⟨arr, S3, s2, fun i hi => ?_⟩ (by simp) hkK ?_ v5
    · obtain ⟨q, hq, h⟩ := s3 i hi
      exact ⟨q, by simp [hq], h⟩
    · intro q hq
      by_cases e : q = p
      · subst e; simp [Value.ownBlock]
      · simp only [if_neg e]
        exact s4 q (by simpa [e] using hq)

/-- A subgraph made in the subgraph f. -/
theorem sub_kid {w2 : World} {v' : Value} {f p m : Nat} {ao' : Option Addr} {cap' : Nat} {bm : Bool} (g : GAt base G w1 ao na cap vn ve vs vp kss es qs ss Cr C V A) (hI : Blk w1 I inA 33) (hB : Below base W w1) (hb : base ≤ G) (hbS : base ≤ S) (hkK : k < K)
    (hS : SubsAt w1 S K k ss V vs) (hp : Blk w1 p (subArr ao' m cap' (.slice none 0 0)) 58) (hps : ∀ q ∈ ss, q < p) (hbp : base ≤ p) (hf : f ∈ ss)
    (hg : (w1.alloc (.cells #[ptrV p] 56)).grownBy w2 (V f).ownBlock) (ho : w2.ownsRow base 56 1 v' ((C f).length + 1) ((C f).map ptrV ++ [ptrV p])) (hat : v'.ownBlock = (V f).ownBlock ∨ v'.ownBlock = some (w1.alloc (.cells #[ptrV p] 56)).heap.size) (hbs : base ≤ w1.heap.size)
    (h1 : kss.length ≤ 300) (h2 : es.length ≤ 300) (h3 : ss.length ≤ k) (h4 : qs.length ≤ 0) (h5 : b = true ↔ Says na kss es ss A qs) (hbm : bm = true ↔ b = true ∨ 0 < m) :
    SR base I inA W G S K (k + 1) bm ((w2.setCell ⟨f, 4, none⟩ v').setCell ⟨S, k, none⟩ (ptrV p)) := by
  have hpn : p ∉ ss := fun h => Nat.lt_irrefl _ (hps p h)
  have hfp : f ≠ p := fun e => hpn (e ▸ hf)
  obtain ⟨arr, s1, s2, s3, s4, s5⟩ := hS
  have F := g.subs
  obtain ⟨fx, fy, hF⟩ := F.sub f hf
  have hbf : base ≤ f := F.above f hf
  have k2 : Kp [56] w1 w2 := ((Kp.refl _ _).alloc _).grown ((F.row f hf).alloc _) hg (by decide)
  have hF2 := k2.block _ _ _ hF (by decide)
  have k3 : Kp [58, 56] w1 (w2.setCell ⟨f, 4, none⟩ v') := (k2.wide (by simp)).setCell hF2 (by decide) _ _
  have S2 : Blk w2 S arr 56 := (s1.alloc _).grown hg (s4 f hf)
  have S3 : Blk (w2.setCell ⟨f, 4, none⟩ v') S arr 56 := S2.other (blk_ne hF2 S2 (by decide)) _ _
  have k4 : Kp [58, 56] w1 ((w2.setCell ⟨f, 4, none⟩ v').setCell ⟨S, k, none⟩ (ptrV p)) := k3.setCell S3 (by decide) _ _
  have v5 : v'.ownBlock ≠ some S := by
    rcases hat with h | h
    · rw [h]; exact s4 f hf
    · rw [h]; intro e; have e' := Option.some.inj e; have := s1.lt; simp at e'; omega
  have ne58 : ∀ {v : Value} {n : Nat} {xs : List Value}, w2.ownsRow base 56 1 v n xs → v.ownBlock ≠ some f := fun h => own_ne h hF2 (by decide)
  have sub58 : ∀ {q : Nat} {arr' : Array Value}, Blk w1 q arr' 58 → q ≠ f → Blk ((w2.setCell ⟨f, 4, none⟩ v').setCell ⟨S, k, none⟩ (ptrV p)) q arr' 58 := fun h hne =>
    ((k2.block _ _ _ h (by decide)).other (Ne.symm hne) _ _).other (blk_ne S3 ((k2.block _ _ _ h (by decide)).other (Ne.symm hne) 4 v') (by decide)) _ _
  have vother : ∀ q ∈ ss, q ≠ f → ∀ j, (V q).ownBlock = some j → v'.ownBlock ≠ some j := by
    intro q hq hne j hj
    rcases hat with h | h
    · rw [h]; exact F.apart q hq f hf hne j hj
    · rw [h]
      have := ((F.row q hq).lt j hj).2
      intro he
      have he' := Option.some.inj he
      simp at he'
      omega
  refine ⟨ao, na, cap, vn, ve, vs, vp, kss, es, qs, ss ++ [p], Cr, (fun x => if x = p then [] else if x = f then C f ++ [p] else C x), (fun x => if x = p then .slice none 0 0 else if x = f then v' else V x), (fun x => if x = p then m else A x),
    ⟨k4.block _ _ _ g.g (by decide), g.nodes.kp k4 (by decide) (fun p x h => h.kp k4 (by decide) (by decide)), g.edges.kp k4 (by decide) (fun p x h => h.kp k4 (by decide)), ?_, g.paths.kp k4 (by decide) (fun p x h => h.kp k4 (by decide))⟩,
    k4.block _ _ _ hI (by decide), ?_, hb, h1, h2, by simp; omega, h4, says_sub (ss' := ss) hpn h5 hbm, ?_, hbS⟩
  · refine ⟨?_, ?_, ?_, ?_, ?_, ?_, ?_, ?_, ?_, ?_, fun q hq => (List.mem_append.1 hq).elim (F.above q) (fun h => by simp at h; omega), ?_, ?_, ?_, ?_⟩
    · intro q hq
      by_cases e : q = p
      · subst e; simp only [if_pos]; exact ⟨ao', cap', sub58 hp (Ne.symm hfp)⟩
      · have hq' : q ∈ ss := by simpa [e] using hq
        by_cases e2 : q = f
        · subst e2
          simp only [if_neg e, if_pos]
          exact ⟨fx, fy, (hF2.set 4 v').other (blk_ne S3 (hF2.set 4 v') (by decide)) _ _⟩
        · obtain ⟨x, y, hb'⟩ := F.sub q hq'
          simp only [if_neg e, if_neg e2]
          exact ⟨x, y, sub58 hb' e2⟩
    · intro q hq
      by_cases e : q = p
      · subst e; simp only [if_pos]; exact World.ownsRow_nil _ _ _ _
      · have hq' : q ∈ ss := by simpa [e] using hq
        by_cases e2 : q = f
        · subst e2
          simp only [if_neg e, if_pos]
          have r2 := own_set (own_set ho (ne58 ho) 4 v') v5 k (ptrV p)
          simpa using r2
        · simp only [if_neg e, if_neg e2]
          have r2 := own_grown ((F.row q hq').alloc _) hg (fun j hj => F.apart q hq' f hf e2 j hj)
          exact own_set (own_set r2 (ne58 r2) _ _) (s4 q hq') _ _
    · have r2 := own_grown (F.root.alloc _) hg (fun j hj he => F.rootApart f hf j he hj)
      exact own_set (own_set r2 (ne58 r2) _ _) s5 _ _
    · intro q hq c hc
      by_cases e : q = p
      · subst e; simp at hc
      · have hq' : q ∈ ss := by simpa [e] using hq
        by_cases e2 : q = f
        · subst e2
          simp only [if_neg e, if_pos] at hc
          rcases List.mem_append.1 hc with h | h
          · have := F.kids q hq' c h
            exact ⟨this.1, by simp [this.2]⟩
          · simp at h; subst h; exact ⟨hps q hq', by simp⟩
        · simp only [if_neg e, if_neg e2] at hc
          have := F.kids q hq' c hc
          exact ⟨this.1, by simp [this.2]⟩
    · intro c hc
      simp [F.rootKids c hc]
    · intro q hq
      by_cases e : q = p
      · subst e; right; exact ⟨f, by simp [hf], by simp [hfp]⟩
      · have hq' : q ∈ ss := by simpa [e] using hq
        rcases F.reach q hq' with h | ⟨z, hz, h⟩
        · left; exact h
        · right
          refine ⟨z, by simp [hz], ?_⟩
          have e3 : ¬ z = p := fun e => hpn (e ▸ hz)
          simp only [if_neg e3]
          by_cases e2 : z = f
          · subst e2; simp [h]
          · rw [if_neg e2]; exact h
    · intro q hq
      by_cases e : q = p
      · subst e; simp
      · have hq' : q ∈ ss := by simpa [e] using hq
        have := F.small q hq'
        by_cases e2 : q = f
        · subst e2; simp only [if_neg e, if_pos]; simp; omega
        · simp only [if_neg e, if_neg e2]; simp; omega
    · have := F.rootSmall; simp; omega
    · intro q hq z hz hne j hj
      by_cases e : q = p
      · subst e; simp [Value.ownBlock] at hj
      · by_cases e' : z = p
        · subst e'; simp [Value.ownBlock]
        · have hq' : q ∈ ss := by simpa [e] using hq
          have hz' : z ∈ ss := by simpa [e'] using hz
          by_cases eq : q = f
          · subst eq
            have hzf : z ≠ q := Ne.symm hne
            simp only [if_neg e, if_neg e', if_pos, if_neg hzf] at hj ⊢
            intro hc
            exact vother z hz' hzf j hc hj
          · by_cases ez : z = f
            · subst ez
              simp only [if_neg e, if_neg e', if_pos, if_neg eq] at hj ⊢
              exact vother q hq' eq j hj
            · simp only [if_neg e, if_neg e', if_neg eq, if_neg ez] at hj ⊢
              exact F.apart q hq' z hz' hne j hj
    · intro q hq j hj
      by_cases e : q = p
      · subst e; simp [Value.ownBlock] at hj
      · have hq' : q ∈ ss := by simpa [e] using hq
        by_cases eq : q = f
        · subst eq
          simp only [if_neg e, if_pos] at hj
          rcases hat with h | h
          · exact F.rootApart q hq' j (h ▸ hj)
          · rw [h] at hj
            intro hc
            have := (F.root.lt j hc).2
            have hj' := Option.some.inj hj
            simp at hj'
            omega
        · simp only [if_neg e, if_neg eq] at hj
          exact F.rootApart q hq' j hj
    · exact F.uroot
    · intro q hq
      by_cases e : q = p
      · subst e; simp
      · have hq' : q ∈ ss := by simpa [e] using hq
        by_cases e2 : q = f
        · subst e2
          simp only [if_neg e, if_pos]
          rw [List.nodup_append]
          refine ⟨F.ukid q hq', by simp, fun a ha c hc => ?_⟩
          simp at hc; subst hc
          rintro rfl
          exact hpn (F.kids q hq' _ ha).2
        · simp only [if_neg e, if_neg e2]; exact F.ukid q hq'
    · intro q hq c hc
      by_cases e : q = p
      · subst e; simp at hc
      · have hq' : q ∈ ss := by simpa [e] using hq
        by_cases e2 : q = f
        · subst e2
          simp only [if_neg e, if_pos] at hc
          rcases List.mem_append.1 hc with h | h
          · exact F.urk q hq' c h
          · simp at h; subst h; exact fun h => hpn (F.rootKids _ h)
        · simp only [if_neg e, if_neg e2] at hc
          exact F.urk q hq' c hc
    · intro q hq z hz hne c hc
      by_cases e : q = p
      · subst e; simp at hc
      · by_cases e' : z = p
        · subst e'; simp
        · have hq' : q ∈ ss := by simpa [e] using hq
          have hz' : z ∈ ss := by simpa [e'] using hz
          by_cases eq : q = f
          · subst eq
            have hzf : z ≠ q := Ne.symm hne
            simp only [if_neg e, if_neg e', if_pos, if_neg hzf] at hc ⊢
            rcases List.mem_append.1 hc with h | h
            · exact F.ukk q hq' z hz' hne c h
            · simp at h; subst h; exact fun h => hpn (F.kids z hz' _ h).2
          · by_cases ez : z = f
            · subst ez
              simp only [if_neg e, if_neg e', if_pos, if_neg eq] at hc ⊢
              intro h
              rcases List.mem_append.1 h with h | h
              · exact F.ukk q hq' z hz' hne c hc h
              · simp at h; subst h; exact hpn (F.kids q hq' _ hc).2
            · simp only [if_neg e, if_neg e', if_neg eq, if_neg ez] at hc ⊢
              exact F.ukk q hq' z hz' hne c hc
  · exact (((hB.alloc hbs _).grown hg (by simp; omega) (fun j hj => ((F.row f hf).lt j hj).1)).setCell hbf _).setCell hbS _
  · refine subs_set ⟨arr, S3, s2, fun i hi => ?_⟩ (by simp) hkK ?_ s5
    · obtain ⟨q, hq, h⟩ := s3 i hi
      exact ⟨q, by simp [hq], h⟩
    · intro q hq
      by_cases e : q = p
      · subst e; simp [Value.ownBlock]
      · by_cases e2 : q = f
        · subst e2; simp only [if_neg e, if_pos]; exact v5
        · simp only [if_neg e, if_neg e2]
          exact s4 q (by simpa [e] using hq)

/-- The whole invariant under what leaves all old memory alone. -/
theorem GAt.kp {w' : World} (g : GAt base G w1 ao na cap vn ve vs vp kss es qs ss Cr C V A) (k : Kp [] w1 w') : GAt base G w' ao na cap vn ve vs vp kss es qs ss Cr C V A :=
  ⟨k.block _ _ _ g.g (by simp), g.nodes.kp k (by simp) (fun p x h => h.kp k (by simp) (by simp)), g.edges.kp k (by simp) (fun p x h => h.kp k (by simp)), g.subs.kp k (by simp) (by simp), g.paths.kp k (by simp) (fun p x h => h.kp k (by simp))⟩
theorem SubsAt.kp {w' : World} (h : SubsAt w1 S K k ss V vs) (kk : Kp [] w1 w') : SubsAt w' S K k ss V vs := by
  obtain ⟨arr, s1, s2, s3, s4, s5⟩ := h
  exact ⟨arr, kk.block _ _ _ s1 (by simp), s2, s3, s4, s5⟩

/-- The loop over Subs begins. -/
theorem sr_start {wc w' : World} {n : Nat} {xs : List Value} (h : GI base I inA W G 300 300 0 0 b wc) (ho : w'.ownsRow wc.heap.size 56 1 (.slice (some ⟨wc.heap.size, 0, none⟩) n n) n xs) (hg : wc.grownBy w' none) : SR base I inA W G wc.heap.size n 0 b w' := by
  obtain ⟨ao, na, cap, vn, ve, vs, vp, kss, es, qs, ss, Cr, C, V, A, g1, g2, g3, g4, g5, g6, g7, g8, g9⟩ := h
  have hbel : Below wc.heap.size wc w' := ⟨hg.os, hg.tape, hg.output, hg.size, fun k hk => hg.block k hk (by simp)⟩
  have kk : Kp [] wc w' := Kp.of_below hbel
  have hss : ss = [] := List.eq_nil_of_length_eq_zero (by omega)
  subst hss
  have hG := g1.g.lt
  refine ⟨ao, na, cap, vn, ve, vs, vp, kss, es, qs, [], Cr, C, V, A, g1.kp kk, kk.block _ _ _ g2 (by simp), g3.trans (hbel.mono (by omega)), g4, g5, g6, by simp, g8, g9, ?_, by omega⟩
  rcases ho with ⟨h0, ⟨h, _⟩ | ⟨g, c, cur, h, q1, q2, q3, q4, q5, q6⟩⟩
  · simp at h
  · simp at h
    obtain ⟨rfl, rfl⟩ := h
    refine ⟨cur, q2, by simpa using q5, by simp, by simp, ?_⟩
    intro e
    have := (g1.subs.root.lt _ e).2
    omega
end

end Exa
end Go.Proofs.Ybulkcpu
