import Derived.Test.YbulkcpuSubs
namespace Go.Proofs.Ybulkcpu
open Go.RowKit
set_option linter.unusedVariables false
set_option linter.unusedSimpArgs false

namespace Exa
theorem nodup_rev {l : List Nat} (h : l.Nodup) : l.reverse.Nodup := by
  unfold List.Nodup at *
  rw [List.pairwise_reverse]
  exact h.imp (fun hab => Ne.symm hab)
theorem nodup_length {l m : List Nat} (h : l.Nodup) (hs : ∀ x ∈ l, x ∈ m) : l.length ≤ m.length := by
  induction l generalizing m with
  | nil => simp
  | cons a l ih =>
    rw [List.nodup_cons] at h
    have hm : a ∈ m := hs a (by simp)
    have := ih (m := m.erase a) h.2 (fun x hx => (List.mem_erase_of_ne (show x ≠ a from fun e => h.1 (e ▸ hx))).2 (hs x (by simp [hx])))
    rw [List.length_erase_of_mem hm] at this
    have h0 : 0 < m.length := List.length_pos_of_mem hm
    simp
    omega

/-- Where the walk over the subgraphs stands: vis have been handed on and had no attribute, stack is left. -/
structure DInv (ss Cr : List Nat) (C : Nat → List Nat) (A : Nat → Nat) (vis stack : List Nat) : Prop where
  st : ∀ x ∈ stack, x ∈ ss ∧ x ∉ vis ∧ (x ∈ Cr ∨ ∃ q ∈ vis, x ∈ C q)
  nd : stack.Nodup
  vs : ∀ y ∈ vis, y ∈ ss ∧ A y = 0 ∧ (y ∈ Cr ∨ ∃ q ∈ vis, y ∈ C q)
  cr : ∀ c ∈ Cr, c ∈ vis ∨ c ∈ stack
  cl : ∀ q ∈ vis, ∀ c ∈ C q, c ∈ vis ∨ c ∈ stack

section
variable {base : Nat} {w : World} {vs : Value} {ss Cr : List Nat} {C : Nat → List Nat} {V : Nat → Value} {A : Nat → Nat}

theorem DInv.start (F : Forest base w vs ss Cr C V A) : DInv ss Cr C A [] Cr.reverse :=
  ⟨fun x hx => by simp at hx; exact ⟨F.rootKids x hx, by simp, .inl hx⟩, nodup_rev F.uroot, by simp, fun c hc => by simp [hc], by simp⟩

theorem DInv.step (F : Forest base w vs ss Cr C V A) {vis rest : List Nat} {v : Nat} (h : DInv ss Cr C A vis (rest ++ [v])) (hA : A v = 0) : DInv ss Cr C A (v :: vis) (rest ++ (C v).reverse) := by
  obtain ⟨hv1, hv2, hv3⟩ := h.st v (by simp)
  have hnd := h.nd
  rw [List.nodup_append] at hnd
  have hrv : ∀ x ∈ rest, x ≠ v := fun x hx => hnd.2.2 x hx v (by simp)
  refine ⟨?_, ?_, ?_, ?_, ?_⟩
  · intro x hx
    rcases List.mem_append.1 hx with h' | h'
    · obtain ⟨a1, a2, a3⟩ := h.st x (by simp [h'])
      refine ⟨a1, by simp [a2, hrv x h'], ?_⟩
      rcases a3 with a3 | ⟨q, hq, a3⟩
      · exact .inl a3
      · exact .inr ⟨q, by simp [hq], a3⟩
    · simp at h'
      obtain ⟨k1, k2⟩ := F.kids v hv1 x h'
      refine ⟨k2, ?_, .inr ⟨v, by simp, h'⟩⟩
      intro hc
      rcases List.mem_cons.1 hc with e | hc
      · omega
      · rcases (h.vs x hc).2.2 with h1 | ⟨q, hq, h1⟩
        · exact F.urk v hv1 x h' h1
        · exact F.ukk v hv1 q (h.vs q hq).1 (fun e => hv2 (e ▸ hq)) x h' h1
  · rw [List.nodup_append]
    refine ⟨hnd.1, nodup_rev (F.ukid v hv1), ?_⟩
    intro a ha c hc
    rintro rfl
    simp at hc
    rcases (h.st a (by simp [ha])).2.2 with h1 | ⟨q, hq, h1⟩
    · exact F.urk v hv1 a hc h1
    · exact F.ukk v hv1 q (h.vs q hq).1 (fun e => hv2 (e ▸ hq)) a hc h1
  · intro y hy
    rcases List.mem_cons.1 hy with rfl | hy
    · refine ⟨hv1, hA, ?_⟩
      rcases hv3 with h1 | ⟨q, hq, h1⟩
      · exact .inl h1
      · exact .inr ⟨q, by simp [hq], h1⟩
    · obtain ⟨a1, a2, a3⟩ := h.vs y hy
      refine ⟨a1, a2, ?_⟩
      rcases a3 with h1 | ⟨q, hq, h1⟩
      · exact .inl h1
      · exact .inr ⟨q, by simp [hq], h1⟩
  · intro c hc
    rcases h.cr c hc with h1 | h1
    · simp [h1]
    · rcases List.mem_append.1 h1 with h1 | h1
      · simp [h1]
      · simp at h1; simp [h1]
  · intro q hq c hc
    rcases List.mem_cons.1 hq with rfl | hq
    · simp [hc]
    · rcases h.cl q hq c hc with h1 | h1
      · simp [h1]
      · rcases List.mem_append.1 h1 with h1 | h1
        · simp [h1]
        · simp at h1; simp [h1]

theorem DInv.done (F : Forest base w vs ss Cr C V A) {vis : List Nat} (h : DInv ss Cr C A vis []) : ∀ p ∈ ss, A p = 0 := by
  have key : ∀ p, p ∈ ss → p ∈ vis := by
    intro p
    induction p using Nat.strongRecOn with
    | _ p ih =>
      intro hp
      rcases F.reach p hp with h1 | ⟨q, hq, h1⟩
      · simpa using h.cr p h1
      · have := ih q (F.kids q hq p h1).1 hq
        simpa using h.cl q this p h1
  exact fun p hp => (h.vs p (key p hp)).2.1

theorem DInv.len {vis stack : List Nat} (h : DInv ss Cr C A vis stack) : stack.length ≤ ss.length := nodup_length h.nd (fun x hx => (h.st x hx).1)
end

/-- The weight of a subgraph: how many are left to visit below it, at most. -/
def wtF (C : Nat → List Nat) : Nat → Nat → Nat
  | 0, _ => 1
  | f + 1, p => 1 + ((C p).map (wtF C f)).sum

theorem wtF_le (C : Nat → List Nat) : ∀ (f p : Nat), wtF C f p ≤ wtF C (f + 1) p
  | 0, p => by simp [wtF]
  | f + 1, p => by
    have h : ∀ l : List Nat, (l.map (wtF C f)).sum ≤ (l.map (wtF C (f + 1))).sum := by
      intro l
      induction l with
      | nil => simp
      | cons a l ih => have := wtF_le C f a; simp only [List.map_cons, List.sum_cons]; omega
    have := h (C p)
    rw [wtF, wtF]
    omega
theorem wtF_mono (C : Nat → List Nat) {f g : Nat} (h : f ≤ g) (p : Nat) : wtF C f p ≤ wtF C g p := by
  induction h with
  | refl => exact Nat.le_refl _
  | step _ ih => exact Nat.le_trans ih (wtF_le C _ p)

def Wt (C : Nat → List Nat) (N p : Nat) : Nat := wtF C (N - p) p

theorem wt_step {C : Nat → List Nat} {N p : Nat} (hp : p < N) (hk : ∀ c ∈ C p, p < c) : 1 + ((C p).map (Wt C N)).sum ≤ Wt C N p := by
  obtain ⟨f, hf⟩ : ∃ f, N - p = f + 1 := ⟨N - p - 1, by omega⟩
  unfold Wt
  rw [hf, wtF]
  have h : ∀ l : List Nat, (∀ c ∈ l, p < c) → (l.map (fun c => wtF C (N - c) c)).sum ≤ (l.map (wtF C f)).sum := by
    intro l hl
    induction l with
    | nil => simp
    | cons a l ih =>
      have h1 := ih (fun c hc => hl c (by simp [hc]))
      have h2 := wtF_mono C (f := N - a) (g := f) (by have := hl a (by simp); omega) a
      simp only [List.map_cons, List.sum_cons]
      omega
  have := h (C p) hk
  omega

/-- The cells of what is pending. -/
def visCells (x : Nat × Int) : List Value := [ptrV x.1, .int .i64 x.2]

/-- The weight of what is pending, read off the memory. -/
def cellW (g : Nat → Nat) : Value → Nat
  | .pointer (some a) => g a.block
  | _ => 0
def stackW (g : Nat → Nat) (w : World) (v : Value) : Nat :=
  match v with
  | .slice (some a) n _ => match w.heap[a.block]? with
    | some (.cells arr _ _) => ((arr.toList.take (n * 2)).map (cellW g)).sum
    | _ => 0
  | _ => 0

theorem sum_cells (g : Nat → Nat) : ∀ items : List (Nat × Int), ((items.flatMap visCells).map (cellW g)).sum = (items.map (fun x => g x.1)).sum
  | [] => rfl
  | x :: l => by
    have := sum_cells g l
    simp only [List.flatMap_cons, List.map_append, List.sum_append, this, List.map_cons, List.sum_cons, visCells, ptrV, cellW, List.map_nil, List.sum_nil]
    omega

theorem stackW_own {g : Nat → Nat} {w : World} {B : Nat} {v : Value} {items : List (Nat × Int)} (h : w.ownsRow B 70 2 v items.length (items.flatMap visCells)) : stackW g w v = (items.map (fun x => g x.1)).sum := by
  rcases h with ⟨h0, ⟨rfl, h1⟩ | ⟨b, cap, cur, rfl, h1, h2, h3, h4, h5, h6⟩⟩
  · have : items = [] := List.eq_nil_of_length_eq_zero h1
    subst this
    rfl
  · unfold stackW
    simp only [h2]
    rw [h6, sum_cells]

/-- What lies at place i of what is pending. -/
theorem own_items {w : World} {B b cap : Nat} {items : List (Nat × Int)} (h : w.ownsRow B 70 2 (.slice (some ⟨b, 0, none⟩) items.length cap) items.length (items.flatMap visCells)) (i : Nat) (x : Nat × Int) (hx : items[i]? = some x) :
    w.cell? ⟨b, i * 2, none⟩ = some (ptrV x.1) ∧ w.cell? ⟨b, i * 2 + 1, none⟩ = some (.int .i64 x.2) := by
  have key : ∀ (l : List (Nat × Int)) (i : Nat), l[i]? = some x → (l.flatMap visCells)[i * 2]? = some (ptrV x.1) ∧ (l.flatMap visCells)[i * 2 + 1]? = some (.int .i64 x.2) := by
    intro l
    induction l with
    | nil => intro i h; simp at h
    | cons a l ih =>
      intro i h
      cases i with
      | zero => simp at h; subst h; simp [visCells]
      | succ i =>
        simp at h
        have := ih i h
        rw [List.flatMap_cons, show (i + 1) * 2 = i * 2 + 1 + 1 by omega]
        simp only [visCells, List.cons_append, List.nil_append, List.getElem?_cons_succ]
        exact this
  obtain ⟨k1, k2⟩ := key items i hx
  have c1 := h.cells (g := b) rfl _ _ k1
  have c2 := h.cells (g := b) rfl _ _ k2
  rw [Addr.add_lit, Nat.zero_add] at c1 c2
  exact ⟨c1, c2⟩

theorem len_vis : ∀ l : List (Nat × Int), (l.flatMap visCells).length = l.length * 2
  | [] => rfl
  | a :: l => by rw [List.flatMap_cons, List.length_append, len_vis l]; simp [visCells]; omega

/-- What is pending, its last taken off. -/
theorem own_pop {w : World} {B b cap : Nat} {rest : List (Nat × Int)} {x : Nat × Int} (h : w.ownsRow B 70 2 (.slice (some ⟨b, 0, none⟩) (rest.length + 1) cap) (rest.length + 1) ((rest ++ [x]).flatMap visCells)) :
    w.ownsRow B 70 2 (.slice (some ⟨b, 0, none⟩) rest.length cap) rest.length (rest.flatMap visCells) := by
  rcases h with ⟨h0, ⟨h, _⟩ | ⟨g, c, cur, h, q1, q2, q3, q4, q5, q6⟩⟩
  · simp at h
  · simp at h
    obtain ⟨rfl, rfl⟩ := h
    refine ⟨len_vis rest, .inr ⟨b, cap, cur, rfl, q1, q2, by omega, q4, q5, ?_⟩⟩
    have h2 : List.take (rest.length * 2) (List.take ((rest.length + 1) * 2) cur.toList) = List.take (rest.length * 2) ((rest ++ [x]).flatMap visCells) := by rw [q6]
    rw [List.take_take, Nat.min_eq_left (by omega)] at h2
    rw [h2, List.flatMap_append, ← len_vis rest, List.take_left]

end Exa
end Go.Proofs.Ybulkcpu
