import Derived.Test.YbulkcpuHas
namespace Go.Proofs.Ybulkcpu
open Go.RowKit Go.Shelf
set_option linter.unusedVariables false
set_option linter.unusedSimpArgs false

namespace Exa
/-- What is left of a sequence behind its first n statements. -/
def seqTail : Nat → Code → Code
  | 0, c => c
  | n + 1, .seq _ b => seqTail n b
  | _ + 1, c => c

/-- A slice of bytes. -/
def U8s (W : World) (ao : Option Addr) (n : Nat) : Prop := ∀ i, i < n → ∃ (b off : Nat) (x : Int), ao = some ⟨b, off, none⟩ ∧ b < W.heap.size ∧ W.cell? ⟨b, off + i, none⟩ = some (.int .u8 x) ∧ 0 ≤ x ∧ x ≤ 255
/-- A slice of pairs of bytes. -/
def Prs (W : World) (ao : Option Addr) (n : Nat) : Prop := ∀ i, i < n → ∃ (b off : Nat) (x y : Int), ao = some ⟨b, off, none⟩ ∧ b < W.heap.size ∧ W.cell? ⟨b, off + i * 2, none⟩ = some (.int .u8 x) ∧ W.cell? ⟨b, off + i * 2 + 1, none⟩ = some (.int .u8 y) ∧ 0 ≤ x ∧ x ≤ 255 ∧ 0 ≤ y ∧ y ≤ 255
/-- A slice of strings. -/
def Strs (W : World) (ao : Option Addr) (n : Nat) : Prop := ∀ i, i < n → ∃ (b off : Nat) (s : ByteArray), ao = some ⟨b, off, none⟩ ∧ b < W.heap.size ∧ W.cell? ⟨b, off + i, none⟩ = some (.string s)
/-- A slice of slices of strings. -/
def Kss (W : World) (ao : Option Addr) (n : Nat) : Prop := ∀ i, i < n → ∃ (b off : Nat) (a : Option Addr) (m c : Nat), ao = some ⟨b, off, none⟩ ∧ b < W.heap.size ∧ W.cell? ⟨b, off + i, none⟩ = some (.slice a m c) ∧ Strs W a m

/-- What the walk is told of the input. -/
structure Inp (W : World) (ga : Int) (aK aE aS aP : Option Addr) (nK nE nS nP : Nat) : Prop where
  g0 : 0 ≤ ga
  g1 : ga ≤ 255
  keys : Kss W aK nK
  edges : U8s W aE nE
  subs : Prs W aS nS
  paths : U8s W aP nP
  nK : nK ≤ 300
  nE : nE ≤ 300
  nS : nS ≤ 300
  nP : nP ≤ 300

/-- What the law leaves. -/
def LPost (W : World) (e : Ending) (w' : World) : Prop := e = .returned (.bool true) ∧ Below W.heap.size W w'

theorem GI.above {base I : Nat} {inA : Array Value} {W : World} {G kN kE kS kP : Nat} {b : Bool} {w : World} (h : GI base I inA W G kN kE kS kP b w) : base ≤ w.heap.size ∧ Below base W w ∧ Blk w I inA 33 := by
  obtain ⟨ao, na, cap, vn, ve, vs, vp, kss, es, qs, ss, Cr, C, V, A, g1, g2, g3, g4, g5, g6, g7, g8, g9⟩ := h
  exact ⟨by have := g1.g.lt; omega, g3, g2⟩

theorem below_trans_kp {base : Nat} {W w w' : World} (h : Below base W w) (k : Below w.heap.size w w') (hb : base ≤ w.heap.size) : Below base W w' := h.trans (k.mono hb)

/-- One round over edges. -/
theorem edge_round {base I : Nat} {inA : Array Value} {W : World} {G kN kE kS kP : Nat} {b bm : Bool} {wr w' w2 : World} {ao : Option Addr} {na cap : Nat} {vn ve vs vp : Value} {kss : List (List ByteArray)} {es qs ss Cr : List Nat} {C : Nat → List Nat} {V : Nat → Value} {A : Nat → Nat}
    {ps : List Nat} {v' : Value} {m cap' : Nat} {ao' : Option Addr} (g : GAt base G wr ao na cap vn ve vs vp kss es qs ss Cr C V A) (hI : Blk wr I inA 33) (hB : Below base W wr) (hb : base ≤ G)
    (h1 : kss.length ≤ kN) (h2 : es.length ≤ kE) (h3 : ss.length ≤ kS) (h4 : qs.length ≤ kP) (h5 : b = true ↔ Says na kss es ss A qs) (hbm : bm = true ↔ b = true ∨ 0 < m)
    (hl : ps.length = es.length) (hO : wr.ownsRow base 51 1 ve es.length (ps.map ptrV)) (hQ : ∀ (i : Nat) p x, ps[i]? = some p → es[i]? = some x → EdgeAt wr p x) (hbel : Below wr.heap.size wr w')
    (hown : w2.ownsRow base 51 1 v' (es.length + 1) (ps.map ptrV ++ [ptrV w'.heap.size])) (hg : ((w'.alloc (.cells #[.pointer none, .pointer none, .slice ao' m cap'] 53)).alloc (.cells #[ptrV w'.heap.size] 51)).grownBy w2 ve.ownBlock) :
    w2.cell? ⟨G, 5, none⟩ = some ve ∧ w2.frozen? ⟨G, 5, none⟩ = false ∧ GI base I inA W G kN (kE + 1) kS kP bm (w2.setCell ⟨G, 5, none⟩ v') := by
  have hGl := g.g.lt
  have hs := hbel.size
  have O2 : ((w'.alloc (.cells #[.pointer none, .pointer none, .slice ao' m cap'] 53)).alloc (.cells #[ptrV w'.heap.size] 51)).ownsRow base 51 1 ve es.length (ps.map ptrV) := ((own_kp (Kp.of_below (H := []) hbel) hO (by simp)).alloc _).alloc _
  have k : Kp [51] wr w2 := ((((Kp.of_below hbel).alloc _).alloc _).grown O2 hg (by decide))
  have K' : Kp [51] (w'.alloc (.cells #[.pointer none, .pointer none, .slice ao' m cap'] 53)) w2 := ((Kp.refl _ _).alloc _).grown O2 hg (by decide)
  have hp : EdgeAt w2 w'.heap.size m := ⟨ao', cap', K'.block _ _ _ (Blk.new _ _ _) (by decide)⟩
  have hBd : Below base W w2 := (((below_trans_kp hB hbel (by omega)).alloc (by omega) _).alloc (by simp; omega) _).grown hg (by simp; omega) (fun j hj => (hO.lt j hj).1)
  have hG2 := k.block _ _ _ g.g (by decide)
  exact ⟨hG2.cell 5, hG2.free 5, edge_step g hI hb hBd k hl hQ hown hp h1 h2 h3 h4 h5 hbm⟩

/-- One round over paths. -/
theorem path_round {base I : Nat} {inA : Array Value} {W : World} {G kN kE kS kP : Nat} {b bm : Bool} {wr w' w2 : World} {ao : Option Addr} {na cap : Nat} {vn ve vs vp : Value} {kss : List (List ByteArray)} {es qs ss Cr : List Nat} {C : Nat → List Nat} {V : Nat → Value} {A : Nat → Nat}
    {ps : List Nat} {v' : Value} {m cap' : Nat} {ao' : Option Addr} (g : GAt base G wr ao na cap vn ve vs vp kss es qs ss Cr C V A) (hI : Blk wr I inA 33) (hB : Below base W wr) (hb : base ≤ G)
    (h1 : kss.length ≤ kN) (h2 : es.length ≤ kE) (h3 : ss.length ≤ kS) (h4 : qs.length ≤ kP) (h5 : b = true ↔ Says na kss es ss A qs) (hbm : bm = true ↔ b = true ∨ 0 < m)
    (hl : ps.length = qs.length) (hO : wr.ownsRow base 59 1 vp qs.length (ps.map ptrV)) (hQ : ∀ (i : Nat) p x, ps[i]? = some p → qs[i]? = some x → PathAt wr p x) (hbel : Below wr.heap.size wr w')
    (hown : w2.ownsRow base 59 1 v' (qs.length + 1) (ps.map ptrV ++ [ptrV w'.heap.size])) (hg : ((w'.alloc (.cells #[.slice none 0 0, .slice ao' m cap'] 61)).alloc (.cells #[ptrV w'.heap.size] 59)).grownBy w2 vp.ownBlock) :
    w2.cell? ⟨G, 7, none⟩ = some vp ∧ w2.frozen? ⟨G, 7, none⟩ = false ∧ GI base I inA W G kN kE kS (kP + 1) bm (w2.setCell ⟨G, 7, none⟩ v') := by
  have hGl := g.g.lt
  have hs := hbel.size
  have O2 : ((w'.alloc (.cells #[.slice none 0 0, .slice ao' m cap'] 61)).alloc (.cells #[ptrV w'.heap.size] 59)).ownsRow base 59 1 vp qs.length (ps.map ptrV) := ((own_kp (Kp.of_below (H := []) hbel) hO (by simp)).alloc _).alloc _
  have k : Kp [59] wr w2 := ((((Kp.of_below hbel).alloc _).alloc _).grown O2 hg (by decide))
  have K' : Kp [59] (w'.alloc (.cells #[.slice none 0 0, .slice ao' m cap'] 61)) w2 := ((Kp.refl _ _).alloc _).grown O2 hg (by decide)
  have hp : PathAt w2 w'.heap.size m := ⟨ao', cap', K'.block _ _ _ (Blk.new _ _ _) (by decide)⟩
  have hBd : Below base W w2 := (((below_trans_kp hB hbel (by omega)).alloc (by omega) _).alloc (by simp; omega) _).grown hg (by simp; omega) (fun j hj => (hO.lt j hj).1)
  have hG2 := k.block _ _ _ g.g (by decide)
  exact ⟨hG2.cell 7, hG2.free 7, path_step g hI hb hBd k hl hQ hown hp h1 h2 h3 h4 h5 hbm⟩

theorem in_cell {base I : Nat} {inA : Array Value} {W : World} {G kN kE kS kP : Nat} {b : Bool} {w : World} (h : GI base I inA W G kN kE kS kP b w) (i : Nat) : w.cell? ⟨I, i, none⟩ = inA[i]? := h.above.2.2.cell i
theorem old_cell {I : Nat} {inA : Array Value} {W : World} {G kN kE kS kP : Nat} {b : Bool} {w : World} (h : GI W.heap.size I inA W G kN kE kS kP b w) {bb o : Nat} (hl : bb < W.heap.size) : w.cell? ⟨bb, o, none⟩ = W.cell? ⟨bb, o, none⟩ := h.above.2.1.cell (p := ⟨bb, o, none⟩) hl

/-- Between two rounds over the edges, and over the paths. -/
def ER (I : Nat) (inA : Array Value) (W : World) (G n : Nat) (v i : Value) (wr : World) : Prop := ∃ (k : Nat) (b : Bool), k ≤ n ∧ i = .int .i64 k ∧ v = .bool b ∧ GI W.heap.size I inA W G 300 k 0 0 b wr
def PR (I : Nat) (inA : Array Value) (W : World) (G n : Nat) (v i : Value) (wr : World) : Prop := ∃ (k : Nat) (b : Bool), k ≤ n ∧ i = .int .i64 k ∧ v = .bool b ∧ GI W.heap.size I inA W G 300 300 300 k b wr
end Exa
end Go.Proofs.Ybulkcpu
