import Derived.Test.YbulkcqiDoorLoop0
namespace Go.Proofs.YbulkcqiDoor
open Go.RowKit
set_option linter.unusedVariables false
set_option linter.unusedSimpArgs false

namespace Wlk
/-- The matcher's tables: the ASCII set of instruction 2, and what instruction 0 leads to. -/
structure Tabs (w : World) (M : MC) (S : Nat → Bool) : Prop where
  a0 : ∃ arr, Blk w M.ab arr 26 ∧ arr[4]? = some (.int .u64 (setW S 0)) ∧ arr[5]? = some (.int .u64 (setW S 1))
  i0 : ∃ arr, Blk w M.ib arr 33 ∧ arr[2]? = some (.int .u32 1)
theorem Tabs.kp {H : List TypeId} {w w' : World} (k : Kp H w w') {M : MC} {S : Nat → Bool} (h : Tabs w M S) (h1 : 26 ∉ H) (h2 : 33 ∉ H) : Tabs w' M S := by
  obtain ⟨⟨arr, a1, a2⟩, ⟨brr, b1, b2⟩⟩ := h
  exact ⟨⟨arr, k.block _ _ _ a1 h1, a2⟩, ⟨brr, k.block _ _ _ b1 h2, b2⟩⟩
theorem Tabs.c {w : World} {M : MC} {S : Nat → Bool} (h : Tabs w M S) (k : Nat) (hk : k < 2) : w.cell? ⟨M.ab, 4 + k, none⟩ = some (.int .u64 (setW S k)) := by
  obtain ⟨arr, a1, a2, a3⟩ := h.a0
  rw [a1.cell]
  match k, hk with
  | 0, _ => exact a2
  | 1, _ => exact a3
theorem Tabs.arg {w : World} {M : MC} {S : Nat → Bool} (h : Tabs w M S) : w.cell? ⟨M.ib, 2, none⟩ = some (.int .u32 1) := by
  obtain ⟨arr, a1, a2⟩ := h.i0
  rw [a1.cell]
  exact a2

/-- What is left of a sequence behind its first n statements. -/
def seqTail : Nat → Code → Code
  | 0, c => c
  | n + 1, .seq _ b => seqTail n b
  | _ + 1, c => c

/-- What loop leaves. -/
def LoopPost (B : Nat) (M : MC) (far : Int) (V : Nat → Nat → Bool) (S : Nat → Bool) (D : Nat → Nat) (pos : Nat) (w : World) (e : Ending) (w' : World) : Prop :=
  ∃ (E last : Nat) (going : Bool) (sb sc : Nat), e = .returned (.tuple #[.int .i64 last, .bool going]) ∧ EndAt S D pos M.e E ∧ Stops V pos E last going ∧
    MatAt w' M (if far < last then last else far) (.slice (some ⟨sb, 0, none⟩) 1 sc) (marked V pos last going) ∧
    (∃ arr, Blk w' sb arr 54 ∧ arr[0]? = some (.int .u32 1) ∧ arr[1]? = some (.bool false) ∧ arr[2]? = some (.int .i64 pos) ∧ arr[3]? = some (.int .i64 last)) ∧
    Kp [25, 49, 54] w w' ∧ Below B w w'

def LRel (S : Nat → Bool) (D : Nat → Nat) (pos e : Nat) (w : World) (v u : Value) (wr : World) : Prop := ∃ i : Nat, v = .int .i64 i ∧ pos ≤ i ∧ i ≤ e ∧ (∀ q, pos ≤ q → q < i → Tk S D q) ∧ Below w.heap.size w wr
def LEnd (S : Nat → Bool) (D : Nat → Nat) (pos e : Nat) (w : World) (v u : Value) (wr : World) : Prop := ∃ i : Nat, v = .int .i64 i ∧ EndAt S D pos e i ∧ Below w.heap.size w wr

theorem tab_lt {g : Nat} {w : World} (h : Tab g w) : g < w.heap.size := by
  have := h 0 (by decide)
  rcases Nat.lt_or_ge g w.heap.size with hl | hl
  · exact hl
  · simp [World.cell?, Array.getElem?_eq_none hl] at this

/-- The branch that loop pushes. -/
def brCells (pos last : Nat) : List Value := [.int .u32 1, .bool false, .int .i64 pos, .int .i64 last]

theorem loop_end {B : Nat} {M : MC} {far : Int} {V V2 : Nat → Nat → Bool} {S : Nat → Bool} {D : Nat → Nat} {pos E last : Nat} {going : Bool} {w wc w1 w2 : World} {v' : Value} {far2 : Int}
    (hm : MatAt wc M far2 (.slice none 0 0) V2) (hk : Kp [25, 49] w wc) (hb : Below B w wc) (hB : B ≤ wc.heap.size) (hB1 : B ≤ M.mb) (he : EndAt S D pos M.e E) (hs : Stops V pos E last going) (hf : far2 = if far < last then (last : Int) else far) (hV : V2 = marked V pos last going)
    (hw1 : Kp [] wc w1) (hb1 : Below wc.heap.size wc w1) (hown : w2.ownsRow wc.heap.size 54 4 v' (0 + 1) ([] ++ brCells pos last)) (hg : w1.grownBy w2 (Value.ownBlock (.slice none 0 0))) :
    ∃ sb sc, v' = .slice (some ⟨sb, 0, none⟩) 1 sc ∧ w2.cell? ⟨M.mb, 7, none⟩ = some (.slice none 0 0) ∧ w2.frozen? ⟨M.mb, 7, none⟩ = false ∧ LoopPost B M far V S D pos w (.returned (.tuple #[.int .i64 last, .bool going])) (w2.setCell ⟨M.mb, 7, none⟩ (.slice (some ⟨sb, 0, none⟩) 1 sc)) := by
  obtain ⟨g, cap, rfl⟩ := own_some hown (by decide)
  have k2 : Kp [54] wc w2 := (hw1.wide (by simp)).grown (World.ownsRow_nil w1 0 54 4) hg (by decide)
  have m2 := hm.kp k2 (by decide) (by decide) (by decide) (by decide)
  have hb2 : Below wc.heap.size wc w2 := hb1.grown hg (by have := hb1.size; omega) (fun k hk => by simp [Value.ownBlock] at hk)
  refine ⟨g, cap, rfl, m2.c7, m2.free 7, E, last, going, g, cap, rfl, he, hs, ?_, ?_, ?_, ?_⟩
  · rw [← hf, ← hV]
    exact m2.setStk _
  · rcases hown with ⟨h0, ⟨h1, _⟩ | ⟨g', cap', cur, h1, h2, h3, h4⟩⟩
    · simp at h1
    · simp only [Value.slice.injEq, Option.some.injEq, Addr.mk.injEq] at h1
      obtain ⟨⟨rfl, _⟩, _, rfl⟩ := h1
      obtain ⟨c1, c8, mm⟩ := m2.m
      have h3' : Blk w2 g cur 54 := h3
      have q : ∀ (j : Nat) (u : Value), (brCells pos last)[j]? = some u → cur[j]? = some u := by
        intro j u hj
        have hc := World.ownsRow.cells (h := (⟨h0, .inr ⟨g, cap, cur, rfl, h2, h3, h4⟩⟩ : w2.ownsRow wc.heap.size 54 4 (.slice (some ⟨g, 0, none⟩) (0 + 1) cap) (0 + 1) ([] ++ brCells pos last))) rfl j u (by simpa using hj)
        rw [Addr.add_lit, Nat.zero_add, h3'.cell] at hc
        exact hc
      exact ⟨cur, h3'.other (blk_ne mm h3' (by decide)) _ _, q 0 _ rfl, q 1 _ rfl, q 2 _ rfl, q 3 _ rfl⟩
  · exact m2.kpm ((hk.wide (by intro t ht; simp at ht ⊢; rcases ht with h | h <;> simp [h])).trans (k2.wide (by intro t ht; simp at ht ⊢; simp [ht]))) (by decide) _ _
  · exact ((hb.trans (hb2.mono hB)).setCell (by exact hB1) _)
end Wlk
end Go.Proofs.YbulkcqiDoor
