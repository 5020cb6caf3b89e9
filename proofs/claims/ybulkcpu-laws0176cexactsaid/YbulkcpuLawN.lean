import Derived.Test.YbulkcpuLaw0
namespace Go.Proofs.Ybulkcpu
open Go.RowKit Go.Shelf
set_option linter.unusedVariables false
set_option linter.unusedSimpArgs false

namespace Exa
/-- Between two rounds over NodeKeys. -/
def NR (I : Nat) (inA : Array Value) (W : World) (G n : Nat) (v i : Value) (wr : World) : Prop := ∃ (k : Nat) (b : Bool), k ≤ n ∧ i = .int .i64 k ∧ v = .bool b ∧ GI W.heap.size I inA W G k 0 0 0 b wr

/-- Between two rounds over a node's keys: the node lies at p. -/
def NI (wr : World) (p : Nat) (b1 : Bool) (n7 : Nat) (v i : Value) (w4 : World) : Prop :=
  ∃ (ks : List ByteArray) (b : Bool) (va : Value), ks.length ≤ n7 ∧ i = .int .i64 ks.length ∧ v = .bool b ∧ (b = true ↔ b1 = true ∨ ∃ k ∈ ks, isLab k = false) ∧ Blk w4 p #[.string nB, .bool false, va] 48 ∧ w4.ownsRow wr.heap.size 50 3 va ks.length (ks.flatMap attrCells) ∧ Below wr.heap.size wr w4

theorem ni_start (wr : World) (b1 : Bool) (n7 : Nat) : NI wr wr.heap.size b1 n7 (.bool b1) (.int .i64 0) (wr.alloc (.cells #[.string nB, .bool false, .slice none 0 0] 48)) :=
  ⟨[], b1, .slice none 0 0, Nat.zero_le _, rfl, rfl, by simp, Blk.new _ _ _, World.ownsRow_nil _ _ _ _, (Below.refl _ _).alloc (Nat.le_refl _) _⟩

/-- One key more. -/
theorem ni_step {wr w4 w2 : World} {p : Nat} {b1 b bm : Bool} {n7 : Nat} {ks : List ByteArray} {va v' : Value} {key : ByteArray} (hl : ks.length < n7) (hb : b = true ↔ b1 = true ∨ ∃ k ∈ ks, isLab k = false) (hbm : bm = true ↔ b = true ∨ isLab key = false) (hp : wr.heap.size ≤ p)
    (hB : Blk w4 p #[.string nB, .bool false, va] 48) (hO : w4.ownsRow wr.heap.size 50 3 va ks.length (ks.flatMap attrCells)) (hbel : Below wr.heap.size wr w4)
    (hown : w2.ownsRow wr.heap.size 50 3 v' (ks.length + 1) (ks.flatMap attrCells ++ attrCells key)) (hg : (w4.drew.alloc (.cells #[.string key, .string vB, .bool false] 50)).grownBy w2 va.ownBlock) :
    w2.cell? ⟨p, 2, none⟩ = some va ∧ w2.frozen? ⟨p, 2, none⟩ = false ∧ NI wr p b1 n7 (.bool bm) (.int .i64 ((ks.length : Int) + 1)) (w2.setCell ⟨p, 2, none⟩ v') := by
  have hs := hbel.size
  have hO' : (w4.drew.alloc (.cells #[.string key, .string vB, .bool false] 50)).ownsRow wr.heap.size 50 3 va ks.length (ks.flatMap attrCells) := World.ownsRow.alloc (w := w4.drew) hO _
  have kk : Kp [50] w4.drew w2 := ((Kp.refl _ _).alloc _).grown hO' hg (by decide)
  have hB2 : Blk w2 p #[.string nB, .bool false, va] 48 := kk.block _ _ _ hB (by decide)
  refine ⟨hB2.cell 2, hB2.free 2, ks ++ [key], bm, v', by simp; omega, by simp, rfl, ?_, hB2.set 2 v', ?_, ?_⟩
  · rw [hbm, hb]
    constructor
    · rintro ((h | ⟨k, h, h'⟩) | h)
      · exact .inl h
      · exact .inr ⟨k, by simp [h], h'⟩
      · exact .inr ⟨key, by simp, h⟩
    · rintro (h | ⟨k, h, h'⟩)
      · exact .inl (.inl h)
      · rcases List.mem_append.1 h with h | h
        · exact .inl (.inr ⟨k, h, h'⟩)
        · simp at h; subst h; exact .inr h'
  · have h1 := own_set hown (own_ne hown hB2 (by decide)) 2 v'
    simpa using h1
  · have hd : Below wr.heap.size wr w4.drew := ⟨hbel.os, hbel.tape, hbel.output, hbel.size, hbel.block⟩
    exact ((hd.alloc (by exact hs) _).grown hg (by simp; omega) (fun j hj => (hO.lt j hj).1)).setCell hp _

theorem ni_cell {W wo w3 : World} {p : Nat} {b1 : Bool} {n7 : Nat} {v i : Value} {kb o : Nat} {u : Value} (h : NI wo p b1 n7 v i w3) (hkl : kb < W.heap.size) (hbs : W.heap.size ≤ wo.heap.size) (hB : Below W.heap.size W wo) (hc : W.cell? ⟨kb, o, none⟩ = some u) : w3.cell? ⟨kb, o, none⟩ = some u := by
  obtain ⟨ks, b, va, _, _, _, _, _, _, hbel⟩ := h
  exact ((hbel.cell (p := ⟨kb, o, none⟩) (by exact Nat.lt_of_lt_of_le hkl hbs)).trans (hB.cell (p := ⟨kb, o, none⟩) hkl)).trans hc

/-- The node is ready: one node more. -/
theorem node_round {base I : Nat} {inA : Array Value} {W : World} {G kN : Nat} {b1 bm : Bool} {wr w4 w2 : World} {ao : Option Addr} {na cap : Nat} {vn ve vs vp : Value} {kss : List (List ByteArray)} {es qs ss Cr : List Nat} {C : Nat → List Nat} {V : Nat → Value} {A : Nat → Nat}
    {ps : List Nat} {v' va : Value} {p n7 : Nat} {ks : List ByteArray} (g : GAt base G wr ao na cap vn ve vs vp kss es qs ss Cr C V A) (hI : Blk wr I inA 33) (hB : Below base W wr) (hb : base ≤ G)
    (h1 : kss.length ≤ kN) (h2 : es.length ≤ 0) (h3 : ss.length ≤ 0) (h4 : qs.length ≤ 0) (h5 : b1 = true ↔ Says na kss es ss A qs) (hbm : bm = true ↔ b1 = true ∨ ∃ k ∈ ks, isLab k = false) (hn7 : n7 ≤ 300) (hks : ks.length ≤ n7)
    (hl : ps.length = kss.length) (hO : wr.ownsRow base 46 1 vn kss.length (ps.map ptrV)) (hQ : ∀ (i : Nat) p x, ps[i]? = some p → kss[i]? = some x → NodeAt base wr p x) (hbel : Below wr.heap.size wr w4) (hp : Blk w4 p #[.string nB, .bool false, va] 48) (hva : w4.ownsRow wr.heap.size 50 3 va ks.length (ks.flatMap attrCells))
    (hown : w2.ownsRow base 46 1 v' (kss.length + 1) (ps.map ptrV ++ [ptrV p])) (hg : (w4.alloc (.cells #[ptrV p] 46)).grownBy w2 vn.ownBlock) :
    w2.cell? ⟨G, 4, none⟩ = some vn ∧ w2.frozen? ⟨G, 4, none⟩ = false ∧ GI base I inA W G (kN + 1) 0 0 0 bm (w2.setCell ⟨G, 4, none⟩ v') := by
  have hGl := g.g.lt
  have hs := hbel.size
  have O2 : (w4.alloc (.cells #[ptrV p] 46)).ownsRow base 46 1 vn kss.length (ps.map ptrV) := (own_kp (Kp.of_below (H := []) hbel) hO (by simp)).alloc _
  have k : Kp [46] wr w2 := ((Kp.of_below hbel).alloc _).grown O2 hg (by decide)
  have K' : Kp [46] w4 w2 := ((Kp.refl _ _).alloc _).grown O2 hg (by decide)
  have hpn : NodeAt base w2 p ks := NodeAt.kp ⟨va, hp, own_base hva (by omega), by omega⟩ K' (by decide) (by decide)
  have hBd : Below base W w2 := ((below_trans_kp hB hbel (by omega)).alloc (by omega) _).grown hg (by simp; omega) (fun j hj => (hO.lt j hj).1)
  have hG2 := k.block _ _ _ g.g (by decide)
  exact ⟨hG2.cell 4, hG2.free 4, node_step g hI hb hBd k hl hQ hown hpn h1 h2 h3 h4 h5 hbm⟩
end Exa
end Go.Proofs.Ybulkcpu
