import Derived.Test.YbulkcpuHeap
namespace Go.Proofs.Ybulkcpu
open Go.RowKit
set_option linter.unusedVariables false
set_option linter.unusedSimpArgs false

namespace Exa
def ptrV (p : Nat) : Value := .pointer (some ⟨p, 0, none⟩)
/-- The key is "label". -/
def isLab (k : ByteArray) : Bool := k.toList == [108, 97, 98, 101, 108]
def nB : ByteArray := ⟨#[110]⟩

/-- v: a row of pointers to blocks, each as Q says. -/
def ListAt {α : Type} (Q : World → Nat → α → Prop) (rt : TypeId) (base : Nat) (w : World) (v : Value) (xs : List α) : Prop :=
  ∃ ps : List Nat, ps.length = xs.length ∧ w.ownsRow base rt 1 v xs.length (ps.map ptrV) ∧ ∀ (i : Nat) p x, ps[i]? = some p → xs[i]? = some x → Q w p x

theorem ListAt.nil {α : Type} {Q : World → Nat → α → Prop} {rt : TypeId} {base : Nat} {w : World} : ListAt Q rt base w (.slice none 0 0) [] :=
  ⟨[], rfl, World.ownsRow_nil _ _ _ _, fun i p x h => by simp at h⟩
theorem ListAt.kp {α : Type} {Q : World → Nat → α → Prop} {rt : TypeId} {base : Nat} {w w' : World} {v : Value} {xs : List α} {H : List TypeId} (h : ListAt Q rt base w v xs) (k : Kp H w w') (hr : rt ∉ H) (hQ : ∀ p x, Q w p x → Q w' p x) : ListAt Q rt base w' v xs := by
  obtain ⟨ps, h1, h2, h3⟩ := h
  exact ⟨ps, h1, own_kp k h2 hr, fun i p x hp hx => hQ _ _ (h3 i p x hp hx)⟩
theorem ListAt.push {α : Type} {Q : World → Nat → α → Prop} {rt : TypeId} {base : Nat} {w2 : World} {v' : Value} {xs : List α} {ps : List Nat} {p : Nat} {x : α} (hl : ps.length = xs.length)
    (hQ : ∀ (i : Nat) p x, ps[i]? = some p → xs[i]? = some x → Q w2 p x) (ho : w2.ownsRow base rt 1 v' (xs.length + 1) (ps.map ptrV ++ [ptrV p])) (hp : Q w2 p x) : ListAt Q rt base w2 v' (xs ++ [x]) := by
  refine ⟨ps ++ [p], by simp [hl], by simpa using ho, ?_⟩
  intro i q y hq hy
  rcases Nat.lt_trichotomy i xs.length with h | h | h
  · rw [List.getElem?_append_left (by omega)] at hq hy
    exact hQ i q y hq hy
  · subst h
    rw [← hl, List.getElem?_concat_length] at hq
    rw [List.getElem?_concat_length] at hy
    cases hq; cases hy
    exact hp
  · rw [List.getElem?_eq_none (by simp; omega)] at hy
    cases hy

/-- The cells of one attribute. -/
def attrCells (k : ByteArray) : List Value := [.string k, .string vB, .bool false]
/-- A node with these keys. -/
def NodeAt (base : Nat) (w : World) (p : Nat) (ks : List ByteArray) : Prop := ∃ va, Blk w p #[.string nB, .bool false, va] 48 ∧ w.ownsRow base 50 3 va ks.length (ks.flatMap attrCells) ∧ ks.length ≤ 300
def EdgeAt (w : World) (p n : Nat) : Prop := ∃ ao cap, Blk w p #[.pointer none, .pointer none, .slice ao n cap] 53
def PathAt (w : World) (p n : Nat) : Prop := ∃ ao cap, Blk w p #[.slice none 0 0, .slice ao n cap] 61

theorem NodeAt.kp {base : Nat} {w w' : World} {H : List TypeId} {p : Nat} {ks : List ByteArray} (h : NodeAt base w p ks) (k : Kp H w w') (h48 : 48 ∉ H) (h50 : 50 ∉ H) : NodeAt base w' p ks := by
  obtain ⟨va, h1, h2, h3⟩ := h
  exact ⟨va, k.block _ _ _ h1 h48, own_kp k h2 h50, h3⟩
theorem EdgeAt.kp {w w' : World} {H : List TypeId} {p n : Nat} (h : EdgeAt w p n) (k : Kp H w w') (h53 : 53 ∉ H) : EdgeAt w' p n := by
  obtain ⟨ao, cap, h1⟩ := h
  exact ⟨ao, cap, k.block _ _ _ h1 h53⟩
theorem PathAt.kp {w w' : World} {H : List TypeId} {p n : Nat} (h : PathAt w p n) (k : Kp H w w') (h61 : 61 ∉ H) : PathAt w' p n := by
  obtain ⟨ao, cap, h1⟩ := h
  exact ⟨ao, cap, k.block _ _ _ h1 h61⟩

/-- A subgraph's five cells. -/
def subArr (ao : Option Addr) (n cap : Nat) (v : Value) : Array Value := #[.string ByteArray.empty, .slice ao n cap, .slice none 0 0, .slice none 0 0, v]

/-- The subgraphs ss: those made in the graph itself (Cr, in the row vs), those made in p (C p, in the row V p); A p attributes each. -/
structure Forest (base : Nat) (w : World) (vs : Value) (ss Cr : List Nat) (C : Nat → List Nat) (V : Nat → Value) (A : Nat → Nat) : Prop where
  sub : ∀ p ∈ ss, ∃ ao cap, Blk w p (subArr ao (A p) cap (V p)) 58
  row : ∀ p ∈ ss, w.ownsRow base 56 1 (V p) (C p).length ((C p).map ptrV)
  root : w.ownsRow base 56 1 vs Cr.length (Cr.map ptrV)
  kids : ∀ p ∈ ss, ∀ c ∈ C p, p < c ∧ c ∈ ss
  rootKids : ∀ c ∈ Cr, c ∈ ss
  reach : ∀ p ∈ ss, p ∈ Cr ∨ ∃ q ∈ ss, p ∈ C q
  small : ∀ p ∈ ss, (C p).length ≤ ss.length
  rootSmall : Cr.length ≤ ss.length
  apart : ∀ p ∈ ss, ∀ q ∈ ss, p ≠ q → ∀ k, (V p).ownBlock = some k → (V q).ownBlock ≠ some k
  rootApart : ∀ p ∈ ss, ∀ k, (V p).ownBlock = some k → vs.ownBlock ≠ some k
  above : ∀ p ∈ ss, base ≤ p
  uroot : Cr.Nodup
  ukid : ∀ p ∈ ss, (C p).Nodup
  urk : ∀ p ∈ ss, ∀ c ∈ C p, c ∉ Cr
  ukk : ∀ p ∈ ss, ∀ q ∈ ss, p ≠ q → ∀ c ∈ C p, c ∉ C q

theorem Forest.nil (base : Nat) (w : World) (C : Nat → List Nat) (V : Nat → Value) (A : Nat → Nat) : Forest base w (.slice none 0 0) [] [] C V A :=
  ⟨by simp, by simp, World.ownsRow_nil _ _ _ _, by simp, by simp, by simp, by simp, by simp, by simp, by simp, by simp, by simp, by simp, by simp, by simp⟩
theorem Forest.kp {base : Nat} {w w' : World} {H : List TypeId} {vs : Value} {ss Cr : List Nat} {C : Nat → List Nat} {V : Nat → Value} {A : Nat → Nat} (h : Forest base w vs ss Cr C V A) (k : Kp H w w') (h58 : 58 ∉ H) (h56 : 56 ∉ H) : Forest base w' vs ss Cr C V A :=
  ⟨fun p hp => by obtain ⟨ao, cap, hb⟩ := h.sub p hp; exact ⟨ao, cap, k.block _ _ _ hb h58⟩, fun p hp => own_kp k (h.row p hp) h56, own_kp k h.root h56, h.kids, h.rootKids, h.reach, h.small, h.rootSmall, h.apart, h.rootApart, h.above, h.uroot, h.ukid, h.urk, h.ukk⟩

/-- The Graph's nine cells. -/
def gArr (ao : Option Addr) (na cap : Nat) (vn ve vs vp : Value) : Array Value := #[.string ByteArray.empty, .bool true, .bool false, .slice ao na cap, vn, ve, vs, vp, .pointer none]

/-- What the answer hangs on. -/
def Says (na : Nat) (kss : List (List ByteArray)) (es ss : List Nat) (A : Nat → Nat) (qs : List Nat) : Prop :=
  0 < na ∨ (∃ ks ∈ kss, ∃ k ∈ ks, isLab k = false) ∨ (∃ n ∈ es, 0 < n) ∨ (∃ p ∈ ss, 0 < A p) ∨ (∃ n ∈ qs, 0 < n)

/-- The graph at G, as far as it is built. -/
structure GAt (base G : Nat) (w : World) (ao : Option Addr) (na cap : Nat) (vn ve vs vp : Value) (kss : List (List ByteArray)) (es qs ss Cr : List Nat) (C : Nat → List Nat) (V : Nat → Value) (A : Nat → Nat) : Prop where
  g : Blk w G (gArr ao na cap vn ve vs vp) 45
  nodes : ListAt (NodeAt base) 46 base w vn kss
  edges : ListAt EdgeAt 51 base w ve es
  subs : Forest base w vs ss Cr C V A
  paths : ListAt PathAt 59 base w vp qs

/-- The invariant of the whole law. -/
def GI (base I : Nat) (inA : Array Value) (W : World) (G kN kE kS kP : Nat) (b : Bool) (w : World) : Prop :=
  ∃ (ao : Option Addr) (na cap : Nat) (vn ve vs vp : Value) (kss : List (List ByteArray)) (es qs ss Cr : List Nat) (C : Nat → List Nat) (V : Nat → Value) (A : Nat → Nat),
    GAt base G w ao na cap vn ve vs vp kss es qs ss Cr C V A ∧ Blk w I inA 33 ∧ Below base W w ∧ base ≤ G ∧ kss.length ≤ kN ∧ es.length ≤ kE ∧ ss.length ≤ kS ∧ qs.length ≤ kP ∧ (b = true ↔ Says na kss es ss A qs)

theorem GI.wide {base I : Nat} {inA : Array Value} {W : World} {G kN kE kS kP kN' kE' kS' kP' : Nat} {b : Bool} {w : World} (h : GI base I inA W G kN kE kS kP b w) (h1 : kN ≤ kN') (h2 : kE ≤ kE') (h3 : kS ≤ kS') (h4 : kP ≤ kP') : GI base I inA W G kN' kE' kS' kP' b w := by
  obtain ⟨ao, na, cap, vn, ve, vs, vp, kss, es, qs, ss, Cr, C, V, A, g1, g2, g3, g4, g5, g6, g7, g8, g9⟩ := h
  exact ⟨ao, na, cap, vn, ve, vs, vp, kss, es, qs, ss, Cr, C, V, A, g1, g2, g3, g4, by omega, by omega, by omega, by omega, g9⟩

section
variable {base I : Nat} {inA : Array Value} {W : World} {G kN kE kS kP : Nat} {b : Bool} {wr : World}
variable {ao : Option Addr} {na cap : Nat} {vn ve vs vp : Value} {kss : List (List ByteArray)} {es qs ss Cr : List Nat} {C : Nat → List Nat} {V : Nat → Value} {A : Nat → Nat}

/-- One edge more: wd is the world behind the append. -/
theorem edge_step {wd : World} {v' : Value} {ps : List Nat} {p m : Nat} {bm : Bool} (g : GAt base G wr ao na cap vn ve vs vp kss es qs ss Cr C V A) (hI : Blk wr I inA 33) (hb : base ≤ G) (hBd : Below base W wd)
    (k : Kp [51] wr wd) (hl : ps.length = es.length) (hQ : ∀ (i : Nat) p x, ps[i]? = some p → es[i]? = some x → EdgeAt wr p x) (ho : wd.ownsRow base 51 1 v' (es.length + 1) (ps.map ptrV ++ [ptrV p])) (hp : EdgeAt wd p m)
    (h1 : kss.length ≤ kN) (h2 : es.length ≤ kE) (h3 : ss.length ≤ kS) (h4 : qs.length ≤ kP) (h5 : b = true ↔ Says na kss es ss A qs) (hbm : bm = true ↔ b = true ∨ 0 < m) :
    GI base I inA W G kN (kE + 1) kS kP bm (wd.setCell ⟨G, 5, none⟩ v') := by
  have k' : Kp [45, 51] wr wd := k.wide (by simp)
  have hG := k.block _ _ _ g.g (by decide)
  have K : Kp [45, 51] wr (wd.setCell ⟨G, 5, none⟩ v') := k'.setCell hG (by decide) _ _
  have K2 : Kp [45] wd (wd.setCell ⟨G, 5, none⟩ v') := (Kp.refl _ _).setCell hG (by decide) _ _
  refine ⟨ao, na, cap, vn, v', vs, vp, kss, es ++ [m], qs, ss, Cr, C, V, A, ⟨hG.set 5 _, g.nodes.kp K (by decide) (fun p x h => h.kp K (by decide) (by decide)), ?_, g.subs.kp K (by decide) (by decide), g.paths.kp K (by decide) (fun p x h => h.kp K (by decide))⟩,
    K.block _ _ _ hI (by decide), hBd.setCell hb _, hb, h1, by simp; omega, h3, h4, ?_⟩
  · exact ListAt.push hl (fun i p x a b => (hQ i p x a b).kp K (by decide)) (own_kp K2 ho (by decide)) (hp.kp K2 (by decide))
  · rw [hbm, h5]
    unfold Says
    constructor
    · rintro ((h | h | ⟨n, h, h'⟩ | h | h) | h)
      · exact .inl h
      · exact .inr (.inl h)
      · exact .inr (.inr (.inl ⟨n, by simp [h], h'⟩))
      · exact .inr (.inr (.inr (.inl h)))
      · exact .inr (.inr (.inr (.inr h)))
      · exact .inr (.inr (.inl ⟨m, by simp, h⟩))
    · rintro (h | h | ⟨n, h, h'⟩ | h | h)
      · exact .inl (.inl h)
      · exact .inl (.inr (.inl h))
      · rcases List.mem_append.1 h with h | h
        · exact .inl (.inr (.inr (.inl ⟨n, h, h'⟩)))
        · simp at h; subst h; exact .inr h'
      · exact .inl (.inr (.inr (.inr (.inl h))))
      · exact .inl (.inr (.inr (.inr (.inr h))))

/-- One path more. -/
theorem path_step {wd : World} {v' : Value} {ps : List Nat} {p m : Nat} {bm : Bool} (g : GAt base G wr ao na cap vn ve vs vp kss es qs ss Cr C V A) (hI : Blk wr I inA 33) (hb : base ≤ G) (hBd : Below base W wd)
    (k : Kp [59] wr wd) (hl : ps.length = qs.length) (hQ : ∀ (i : Nat) p x, ps[i]? = some p → qs[i]? = some x → PathAt wr p x) (ho : wd.ownsRow base 59 1 v' (qs.length + 1) (ps.map ptrV ++ [ptrV p])) (hp : PathAt wd p m)
    (h1 : kss.length ≤ kN) (h2 : es.length ≤ kE) (h3 : ss.length ≤ kS) (h4 : qs.length ≤ kP) (h5 : b = true ↔ Says na kss es ss A qs) (hbm : bm = true ↔ b = true ∨ 0 < m) :
    GI base I inA W G kN kE kS (kP + 1) bm (wd.setCell ⟨G, 7, none⟩ v') := by
  have k' : Kp [45, 59] wr wd := k.wide (by simp)
  have hG := k.block _ _ _ g.g (by decide)
  have K : Kp [45, 59] wr (wd.setCell ⟨G, 7, none⟩ v') := k'.setCell hG (by decide) _ _
  have K2 : Kp [45] wd (wd.setCell ⟨G, 7, none⟩ v') := (Kp.refl _ _).setCell hG (by decide) _ _
  refine ⟨ao, na, cap, vn, ve, vs, v', kss, es, qs ++ [m], ss, Cr, C, V, A, ⟨hG.set 7 _, g.nodes.kp K (by decide) (fun p x h => h.kp K (by decide) (by decide)), g.edges.kp K (by decide) (fun p x h => h.kp K (by decide)), g.subs.kp K (by decide) (by decide), ?_⟩,
    K.block _ _ _ hI (by decide), hBd.setCell hb _, hb, h1, h2, h3, by simp; omega, ?_⟩
  · exact ListAt.push hl (fun i p x a b => (hQ i p x a b).kp K (by decide)) (own_kp K2 ho (by decide)) (hp.kp K2 (by decide))
  · rw [hbm, h5]
    unfold Says
    constructor
    · rintro ((h | h | h | h | ⟨n, h, h'⟩) | h)
      · exact .inl h
      · exact .inr (.inl h)
      · exact .inr (.inr (.inl h))
      · exact .inr (.inr (.inr (.inl h)))
      · exact .inr (.inr (.inr (.inr ⟨n, by simp [h], h'⟩)))
      · exact .inr (.inr (.inr (.inr ⟨m, by simp, h⟩)))
    · rintro (h | h | h | h | ⟨n, h, h'⟩)
      · exact .inl (.inl h)
      · exact .inl (.inr (.inl h))
      · exact .inl (.inr (.inr (.inl h)))
      · exact .inl (.inr (.inr (.inr (.inl h))))
      · rcases List.mem_append.1 h with h | h
        · exact .inl (.inr (.inr (.inr (.inr ⟨n, h, h'⟩))))
        · simp at h; subst h; exact .inr h'

/-- One node more. -/
theorem node_step {wd : World} {v' : Value} {ps : List Nat} {p : Nat} {ks : List ByteArray} {bm : Bool} (g : GAt base G wr ao na cap vn ve vs vp kss es qs ss Cr C V A) (hI : Blk wr I inA 33) (hb : base ≤ G) (hBd : Below base W wd)
    (k : Kp [46] wr wd) (hl : ps.length = kss.length) (hQ : ∀ (i : Nat) p x, ps[i]? = some p → kss[i]? = some x → NodeAt base wr p x) (ho : wd.ownsRow base 46 1 v' (kss.length + 1) (ps.map ptrV ++ [ptrV p])) (hp : NodeAt base wd p ks)
    (h1 : kss.length ≤ kN) (h2 : es.length ≤ kE) (h3 : ss.length ≤ kS) (h4 : qs.length ≤ kP) (h5 : b = true ↔ Says na kss es ss A qs) (hbm : bm = true ↔ b = true ∨ ∃ k ∈ ks, isLab k = false) :
    GI base I inA W G (kN + 1) kE kS kP bm (wd.setCell ⟨G, 4, none⟩ v') := by
  have k' : Kp [45, 46] wr wd := k.wide (by simp)
  have hG := k.block _ _ _ g.g (by decide)
  have K : Kp [45, 46] wr (wd.setCell ⟨G, 4, none⟩ v') := k'.setCell hG (by decide) _ _
  have K2 : Kp [45] wd (wd.setCell ⟨G, 4, none⟩ v') := (Kp.refl _ _).setCell hG (by decide) _ _
  refine ⟨ao, na, cap, v', ve, vs, vp, kss ++ [ks], es, qs, ss, Cr, C, V, A, ⟨hG.set 4 _, ?_, g.edges.kp K (by decide) (fun p x h => h.kp K (by decide)), g.subs.kp K (by decide) (by decide), g.paths.kp K (by decide) (fun p x h => h.kp K (by decide))⟩,
    K.block _ _ _ hI (by decide), hBd.setCell hb _, hb, by simp; omega, h2, h3, h4, ?_⟩
  · exact ListAt.push hl (fun i p x a b => (hQ i p x a b).kp K (by decide) (by decide)) (own_kp K2 ho (by decide)) (hp.kp K2 (by decide) (by decide))
  · rw [hbm, h5]
    unfold Says
    constructor
    · rintro ((h | ⟨n, h, h'⟩ | h | h | h) | h)
      · exact .inl h
      · exact .inr (.inl ⟨n, by simp [h], h'⟩)
      · exact .inr (.inr (.inl h))
      · exact .inr (.inr (.inr (.inl h)))
      · exact .inr (.inr (.inr (.inr h)))
      · exact .inr (.inl ⟨ks, by simp, h⟩)
    · rintro (h | ⟨n, h, h'⟩ | h | h | h)
      · exact .inl (.inl h)
      · rcases List.mem_append.1 h with h | h
        · exact .inl (.inr (.inl ⟨n, h, h'⟩))
        · simp at h; subst h; exact .inr h'
      · exact .inl (.inr (.inr (.inl h)))
      · exact .inl (.inr (.inr (.inr (.inl h))))
      · exact .inl (.inr (.inr (.inr (.inr h))))
end

end Exa
end Go.Proofs.Ybulkcpu
