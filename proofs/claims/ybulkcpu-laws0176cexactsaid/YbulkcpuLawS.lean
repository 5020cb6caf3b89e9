import Derived.Test.YbulkcpuLawD
namespace Go.Proofs.Ybulkcpu
open Go.RowKit Go.Shelf
set_option linter.unusedVariables false
set_option linter.unusedSimpArgs false

namespace Exa
/-- Between two rounds of the loop over Subs. -/
def SL (I : Nat) (inA : Array Value) (W : World) (G S n : Nat) (v i : Value) (wr : World) : Prop := ∃ (k : Nat) (b : Bool), k ≤ n ∧ i = .int .i64 k ∧ v = .bool b ∧ SR W.heap.size I inA W G S n k b wr

/-- Where a round over Subs stands when the new subgraph p is laid. -/
structure SM (base I : Nat) (inA : Array Value) (W : World) (G S K k p m : Nat) (b : Bool) (ao' : Option Addr) (cap' : Nat) (vs : Value) (ss Cr : List Nat) (C : Nat → List Nat) (V : Nat → Value) (w1 : World) : Prop where
  ex : ∃ (ao : Option Addr) (na cap : Nat) (vn ve vp : Value) (kss : List (List ByteArray)) (es qs : List Nat) (A : Nat → Nat), GAt base G w1 ao na cap vn ve vs vp kss es qs ss Cr C V A ∧ kss.length ≤ 300 ∧ es.length ≤ 300 ∧ qs.length ≤ 0 ∧ (b = true ↔ Says na kss es ss A qs)
  i : Blk w1 I inA 33
  bel : Below base W w1
  bG : base ≤ G
  bS : base ≤ S
  kK : k < K
  subs : SubsAt w1 S K k ss V vs
  new : Blk w1 p (subArr ao' m cap' (.slice none 0 0)) 58
  old : ∀ q ∈ ss, q < p
  bp : base ≤ p
  bs : base ≤ w1.heap.size
  len : ss.length ≤ k

section
variable {base I : Nat} {inA : Array Value} {W : World} {G S K k p m : Nat} {b bm : Bool} {ao' : Option Addr} {cap' : Nat} {vs : Value} {ss Cr : List Nat} {C : Nat → List Nat} {V : Nat → Value} {w1 w2 : World} {v' : Value}

theorem SM.root (h : SM base I inA W G S K k p m b ao' cap' vs ss Cr C V w1) : (w1.alloc (.cells #[ptrV p] 56)).ownsRow base 56 1 vs Cr.length (Cr.map ptrV) ∧ w1.cell? ⟨G, 6, none⟩ = some vs ∧ Cr.length ≤ k ∧ base ≤ (w1.alloc (.cells #[ptrV p] 56)).heap.size := by
  obtain ⟨ao, na, cap, vn, ve, vp, kss, es, qs, A, g, h1, h2, h4, h5⟩ := h.ex
  exact ⟨g.subs.root.alloc _, g.g.cell 6, Nat.le_trans g.subs.rootSmall h.len, by have := h.bs; simp; omega⟩

theorem root_round (h : SM base I inA W G S K k p m b ao' cap' vs ss Cr C V w1) (hbm : bm = true ↔ b = true ∨ 0 < m)
    (hg : (w1.alloc (.cells #[ptrV p] 56)).grownBy w2 vs.ownBlock) (ho : w2.ownsRow base 56 1 v' (Cr.length + 1) (Cr.map ptrV ++ [ptrV p])) (hat : v'.ownBlock = vs.ownBlock ∨ v'.ownBlock = some (w1.alloc (.cells #[ptrV p] 56)).heap.size) :
    w2.cell? ⟨G, 6, none⟩ = some vs ∧ w2.frozen? ⟨G, 6, none⟩ = false ∧ (∃ u, (w2.setCell ⟨G, 6, none⟩ v').cell? ⟨S, k, none⟩ = some u) ∧ (w2.setCell ⟨G, 6, none⟩ v').frozen? ⟨S, k, none⟩ = false ∧ SR base I inA W G S K (k + 1) bm ((w2.setCell ⟨G, 6, none⟩ v').setCell ⟨S, k, none⟩ (ptrV p)) := by
  obtain ⟨ao, na, cap, vn, ve, vp, kss, es, qs, A, g, h1, h2, h4, h5⟩ := h.ex
  have k2 : Kp [56] w1 w2 := ((Kp.refl _ _).alloc _).grown (g.subs.root.alloc _) hg (by decide)
  have hG2 := k2.block _ _ _ g.g (by decide)
  obtain ⟨arr, s1, s2, s3, s4, s5⟩ := h.subs
  have S2 : Blk w2 S arr 56 := (s1.alloc _).grown hg s5
  have S3 : Blk (w2.setCell ⟨G, 6, none⟩ v') S arr 56 := S2.other (blk_ne hG2 S2 (by decide)) _ _
  refine ⟨hG2.cell 6, hG2.free 6, ⟨arr[k]'(by have := h.kK; omega), ?_⟩, S3.free k, ?_⟩
  · rw [S3.cell k]; exact Array.getElem?_eq_getElem _
  · exact sub_root g h.i h.bel h.bG h.bS h.kK ⟨arr, s1, s2, s3, s4, s5⟩ h.new h.old h.bp hg ho hat h.bs h1 h2 h.len h4 h5 hbm

theorem SM.kid (h : SM base I inA W G S K k p m b ao' cap' vs ss Cr C V w1) {j : Nat} (hj : j < k) : ∃ f, f ∈ ss ∧ w1.cell? ⟨S, j, none⟩ = some (.pointer (some ⟨f, 0, none⟩)) ∧ (w1.alloc (.cells #[ptrV p] 56)).ownsRow base 56 1 (V f) (C f).length ((C f).map ptrV) ∧ w1.cell? ⟨f, 4, none⟩ = some (V f) ∧ (C f).length ≤ k ∧ base ≤ (w1.alloc (.cells #[ptrV p] 56)).heap.size := by
  obtain ⟨ao, na, cap, vn, ve, vp, kss, es, qs, A, g, h1, h2, h4, h5⟩ := h.ex
  obtain ⟨arr, s1, s2, s3, s4, s5⟩ := h.subs
  obtain ⟨f, hf, he⟩ := s3 j hj
  obtain ⟨x, y, hb⟩ := g.subs.sub f hf
  exact ⟨f, hf, by rw [s1.cell j]; exact he, (g.subs.row f hf).alloc _, hb.cell 4, Nat.le_trans (g.subs.small f hf) h.len, by have := h.bs; simp; omega⟩

theorem kid_round (h : SM base I inA W G S K k p m b ao' cap' vs ss Cr C V w1) (hbm : bm = true ↔ b = true ∨ 0 < m) {f : Nat} (hf : f ∈ ss)
    (hg : (w1.alloc (.cells #[ptrV p] 56)).grownBy w2 (V f).ownBlock) (ho : w2.ownsRow base 56 1 v' ((C f).length + 1) ((C f).map ptrV ++ [ptrV p])) (hat : v'.ownBlock = (V f).ownBlock ∨ v'.ownBlock = some (w1.alloc (.cells #[ptrV p] 56)).heap.size) :
    w2.cell? ⟨f, 4, none⟩ = some (V f) ∧ w2.frozen? ⟨f, 4, none⟩ = false ∧ (∃ u, (w2.setCell ⟨f, 4, none⟩ v').cell? ⟨S, k, none⟩ = some u) ∧ (w2.setCell ⟨f, 4, none⟩ v').frozen? ⟨S, k, none⟩ = false ∧ SR base I inA W G S K (k + 1) bm ((w2.setCell ⟨f, 4, none⟩ v').setCell ⟨S, k, none⟩ (ptrV p)) := by
  obtain ⟨ao, na, cap, vn, ve, vp, kss, es, qs, A, g, h1, h2, h4, h5⟩ := h.ex
  obtain ⟨x, y, hF⟩ := g.subs.sub f hf
  have k2 : Kp [56] w1 w2 := ((Kp.refl _ _).alloc _).grown ((g.subs.row f hf).alloc _) hg (by decide)
  have hF2 := k2.block _ _ _ hF (by decide)
  obtain ⟨arr, s1, s2, s3, s4, s5⟩ := h.subs
  have S2 : Blk w2 S arr 56 := (s1.alloc _).grown hg (s4 f hf)
  have S3 : Blk (w2.setCell ⟨f, 4, none⟩ v') S arr 56 := S2.other (blk_ne hF2 S2 (by decide)) _ _
  refine ⟨hF2.cell 4, hF2.free 4, ⟨arr[k]'(by have := h.kK; omega), ?_⟩, S3.free k, ?_⟩
  · rw [S3.cell k]; exact Array.getElem?_eq_getElem _
  · exact sub_kid g h.i h.bel h.bG h.bS h.kK ⟨arr, s1, s2, s3, s4, s5⟩ h.new h.old h.bp hf hg ho hat h.bs h1 h2 h.len h4 h5 hbm

/-- A round's first half. -/
theorem sm_of {wr w' : World} {ao : Option Addr} {na cap : Nat} {vn ve vp : Value} {kss : List (List ByteArray)} {es qs : List Nat} {A : Nat → Nat} {x y : Int} (g : GAt base G wr ao na cap vn ve vs vp kss es qs ss Cr C V A) (hI : Blk wr I inA 33) (hB : Below base W wr) (hb : base ≤ G)
    (h1 : kss.length ≤ 300) (h2 : es.length ≤ 300) (h3 : ss.length ≤ k) (h4 : qs.length ≤ 0) (h5 : b = true ↔ Says na kss es ss A qs) (hS : SubsAt wr S K k ss V vs) (hbS : base ≤ S) (hkK : k < K)
    (hbel : Below (wr.alloc (.cells #[.int .u8 x, .int .u8 y] 55)).heap.size (wr.alloc (.cells #[.int .u8 x, .int .u8 y] 55)) w') :
    SM base I inA W G S K k w'.heap.size m b ao' cap' vs ss Cr C V (w'.alloc (.cells (subArr ao' m cap' (.slice none 0 0)) 58)) ∧ (w'.alloc (.cells (subArr ao' m cap' (.slice none 0 0)) 58)).cell? ⟨wr.heap.size, 0, none⟩ = some (.int .u8 x) ∧ (w'.alloc (.cells (subArr ao' m cap' (.slice none 0 0)) 58)).cell? ⟨wr.heap.size, 1, none⟩ = some (.int .u8 y) := by
  have hs := hbel.size
  simp at hs
  have hg := g.g.lt
  have k0 : Kp [] wr w' := ((Kp.refl _ _).alloc _).trans (Kp.of_below hbel)
  have kk : Kp [] wr (w'.alloc (.cells (subArr ao' m cap' (.slice none 0 0)) 58)) := k0.alloc _
  have hsd := (k0.size)
  have B1 : Below base W w' := (hB.alloc (by omega) _).trans (hbel.mono (by simp; omega))
  have bb := ((Kp.of_below (H := []) hbel).block _ _ _ (Blk.new wr #[.int .u8 x, .int .u8 y] 55) (by simp)).alloc (.cells (subArr ao' m cap' (.slice none 0 0)) 58)
  refine ⟨⟨⟨ao, na, cap, vn, ve, vp, kss, es, qs, A, g.kp kk, h1, h2, h4, h5⟩, kk.block _ _ _ hI (by simp), B1.alloc (by omega) _, hb, hbS, hkK, hS.kp kk, Blk.new _ _ _, ?_, by omega, by simp; omega, h3⟩, bb.cell 0, bb.cell 1⟩
  intro q hq
  obtain ⟨x', y', hb'⟩ := g.subs.sub q hq
  have := hb'.lt
  omega
end
end Exa
end Go.Proofs.Ybulkcpu
