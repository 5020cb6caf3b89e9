import Derived.RangeFuncNested
import Derived.RangeFuncBound
import Derived.RangeFuncCalls
import Derived.RangeFuncLeaves
import Derived.Shelf.Abstract
import Derived.WalkKit
import Derived.OwnWalkIn
import Derived.TacticsInMore
import Derived.LoopNIn
import Derived.LoopIn
import Derived.Test.YbulkcosMutex
namespace Go.Proofs.Ybulkcos
open Go.RowKit Go.Shelf
set_option linter.unusedVariables false
set_option linter.unusedSimpArgs false
attribute [local go_sem] Oper.semAt_some

namespace Lkd
/-- Block b holds just these cells, of element type t, none frozen. -/
def Blk (w : World) (b : Nat) (arr : Array Value) (t : TypeId) : Prop := w.heap[b]? = some (.cells arr t (0, 0))

theorem Blk.lt {w : World} {b : Nat} {arr : Array Value} {t : TypeId} (h : Blk w b arr t) : b < w.heap.size := (Array.getElem?_eq_some_iff.1 h).1
theorem Blk.cell {w : World} {b : Nat} {arr : Array Value} {t : TypeId} (h : Blk w b arr t) (i : Nat) : w.cell? ⟨b, i, none⟩ = arr[i]? := by
  unfold Blk at h
  simp [World.cell?, h]
theorem Blk.free {w : World} {b : Nat} {arr : Array Value} {t : TypeId} (h : Blk w b arr t) (i : Nat) : w.frozen? ⟨b, i, none⟩ = false := by
  unfold Blk at h
  simp [World.frozen?, h]
theorem Blk.set {w : World} {b : Nat} {arr : Array Value} {t : TypeId} (h : Blk w b arr t) (i : Nat) (v : Value) : Blk (w.setCell ⟨b, i, none⟩ v) b (arr.setIfInBounds i v) t := by
  unfold Blk at *
  simp [World.setCell, Array.getElem?_modify, h]
theorem heap_set_other {w : World} {b b' : Nat} {o : Obj} (h : w.heap[b]? = some o) (hne : b' ≠ b) (i : Nat) (v : Value) : (w.setCell ⟨b', i, none⟩ v).heap[b]? = some o := by
  simp [World.setCell, Array.getElem?_modify, hne, h]
theorem Blk.other {w : World} {b b' : Nat} {arr : Array Value} {t : TypeId} (h : Blk w b arr t) (hne : b' ≠ b) (i : Nat) (v : Value) : Blk (w.setCell ⟨b', i, none⟩ v) b arr t := heap_set_other h hne i v
theorem heap_alloc_old {w : World} {b : Nat} {ob : Obj} (h : w.heap[b]? = some ob) (o : Obj) : (w.alloc o).heap[b]? = some ob := by
  have hl : b < w.heap.size := (Array.getElem?_eq_some_iff.1 h).1
  show (w.heap.push o)[b]? = _
  rw [Array.getElem?_push_lt hl]
  rw [Array.getElem?_eq_getElem hl] at h
  exact h
theorem Blk.alloc {w : World} {b : Nat} {arr : Array Value} {t : TypeId} (h : Blk w b arr t) (o : Obj) : Blk (w.alloc o) b arr t := heap_alloc_old h o
theorem Blk.new (w : World) (arr : Array Value) (t : TypeId) : Blk (w.alloc (.cells arr t)) w.heap.size arr t := by
  unfold Blk
  show (w.heap.push _)[w.heap.size]? = _
  simp
theorem Blk.put {w : World} {b r : Nat} {arr : Array Value} {t : TypeId} (h : Blk w b arr t) (hne : b ≠ r) (o : Obj) : Blk (w.putObj r o) b arr t := (World.putObj_heap_other hne).trans h

set_option maxRecDepth 100000 in
set_option maxHeartbeats 2000000 in
/-- THE LAW's ITERATOR: calls goes up by one; of each key: seen goes up, the key is handed to yield. -/
theorem iter_in (F : Fence) (n : Nat) (h15 : F.fn 15) (hro : F.round = none) (hn : 1 ≤ n) (l C K S b off len cap : Nat) (ao : Option Addr) (J : Int → Nat → World → Prop) (hlen : len ≤ 1024) (hao : 0 < len → ao = some ⟨b, off, none⟩)
    (hJ : ∀ c k W, J c k W → Blk W C #[.int .i64 c] 3 ∧ Blk W S #[.int .i64 k] 3 ∧ Blk W K #[.slice ao len cap] 41 ∧ ∀ i, i < len → ∃ s, W.cell? ⟨b, off + i, none⟩ = some (.string s))
    (hJ1 : ∀ k W, J 0 k W → J 1 k (W.setCell ⟨C, 0, none⟩ (.int .i64 1)))
    (hJ2 : ∀ c k W, J c k W → J c (k + 1) (W.setCell ⟨S, 0, none⟩ (.int .i64 ((k : Int) + 1))))
    (hY : ∀ k s W, J 1 (k + 1) W → YieldAt F (n - 1) Yba.prog l #[.string s] W fun e W' => e = .returned (.bool true) ∧ J 1 (k + 1) W')
    (W : World) (h0 : J 0 0 W) :
    CallsIn F n Yba.prog 15 #[.func (.yield l) #[] #[], .pointer (some ⟨C, 0, none⟩), .pointer (some ⟨K, 0, none⟩), .pointer (some ⟨S, 0, none⟩)] W fun e W' => (∃ v, e = .returned v) ∧ J 1 len W' := by
  obtain ⟨b1, b2, b3, b4⟩ := hJ 0 0 W h0
  have c1 : W.cell? ⟨C, 0, none⟩ = some (.int .i64 0) := b1.cell 0
  have f1 := b1.free 0
  have HJ : Hid _ := hJ
  have HJ1 : Hid _ := hJ1
  have HJ2 : Hid _ := hJ2
  have HY : Hid _ := hY
  have H0 : Hid (J 0 0 W) := h0
  clear b1 b2 b3 b4 hJ hJ1 hJ2 hY h0
  refine callsIn_of_wp Yba.func15 rfl h15 ?_ hro
  simp only [Yba.ntmps15, List.size_toArray, List.length_cons, List.length_nil, Nat.reduceAdd, Nat.reduceSub, Array.replicate_succ, Array.replicate_zero, List.push_toArray, List.append_toArray, List.nil_append, List.cons_append]
  gi_wp2
  gi_loopw [5] (fun v wr => ∃ k : Nat, k ≤ len ∧ v = .int .i64 k ∧ J 1 k wr) (fun v _ => len - (intOf v).toNat)
  case atStart => exact ⟨0, Nat.zero_le _, rfl, HJ1.out _ _ H0.out⟩
  case round =>
    obtain ⟨k, hk, rfl, hj⟩ := hrel
    obtain ⟨b1, b2, b3, b4⟩ := HJ.out 1 k wr hj
    have cK : wr.cell? ⟨K, 0, none⟩ = some (.slice ao len cap) := b3.cell 0
    by_cases hlt : k < len
    · obtain rfl := hao (by omega)
      have cS : wr.cell? ⟨S, 0, none⟩ = some (.int .i64 k) := b2.cell 0
      have fS := b2.free 0
      obtain ⟨s, hs⟩ := b4 k hlt
      have hj2 := HJ2.out 1 k wr hj
      obtain ⟨d1, d2, d3, d4⟩ := HJ.out 1 (k + 1) _ hj2
      have cK2 : (wr.setCell ⟨S, 0, none⟩ (.int .i64 ((k : Int) + 1))).cell? ⟨K, 0, none⟩ = some (.slice (some ⟨b, off, none⟩) len cap) := d3.cell 0
      obtain ⟨s', hs'⟩ := d4 k hlt
      obtain ⟨fn, tmps, assign, body, hy, hR⟩ := HY.out k s' _ hj2
      have HR : Hid _ := hR
      have HJ3 : Hid _ := hj2
      clear hR hj2 hj b1 b2 b3 b4 d1 d2 d3 d4 c1 f1 H0
      gi_wp2
      refine RoundIn.mono HR.out ?_
      rintro e W3 ⟨rfl, hj3⟩
      gi_wp2
      go_roundw
      case rel => exact ⟨k + 1, by omega, by go_num, hj3⟩
      case measure => simp [intOf]; omega
    · gi_wp2
      go_end0
      obtain rfl : k = len := by omega
      exact ⟨⟨_, rfl⟩, hj⟩

/-- What lay when the call began lies as it lay, but for the two blocks C and S. -/
structure Kb (C S : Nat) (w W : World) : Prop where
  os : W.os = w.os
  tape : W.tape = w.tape
  output : W.output = w.output
  size : w.heap.size ≤ W.heap.size
  block : ∀ k, k < w.heap.size → k ≠ C → k ≠ S → W.heap[k]? = w.heap[k]?

theorem Kb.refl (C S : Nat) (w : World) : Kb C S w w := ⟨rfl, rfl, rfl, Nat.le_refl _, fun _ _ _ _ => rfl⟩
theorem Kb.alloc {C S : Nat} {w W : World} (h : Kb C S w W) (o : Obj) : Kb C S w (W.alloc o) :=
  ⟨h.os, h.tape, h.output, by have := h.size; simp; omega, fun k hk h1 h2 => by
    have hl : k < W.heap.size := Nat.lt_of_lt_of_le hk h.size
    rw [← h.block k hk h1 h2]
    show (W.heap.push o)[k]? = _
    rw [Array.getElem?_push_lt hl, Array.getElem?_eq_getElem hl]⟩
theorem Kb.setCell {C S : Nat} {w W : World} (h : Kb C S w W) (b i : Nat) (v : Value) (hb : b = C ∨ b = S ∨ w.heap.size ≤ b) : Kb C S w (W.setCell ⟨b, i, none⟩ v) :=
  ⟨h.os, h.tape, h.output, by have := h.size; simp; omega, fun k hk h1 h2 => by
    have hne : b ≠ k := by rcases hb with rfl | rfl | hb <;> omega
    rw [← h.block k hk h1 h2]
    simp [World.setCell, Array.getElem?_modify, hne]⟩
theorem Kb.putObj {C S : Nat} {w W : World} (h : Kb C S w W) (r : Nat) (o : Obj) (hr : w.heap.size ≤ r) : Kb C S w (W.putObj r o) :=
  ⟨h.os, h.tape, h.output, by have := h.size; simp; omega, fun k hk h1 h2 => by
    rw [← h.block k hk h1 h2]
    exact World.putObj_heap_other (by omega)⟩
theorem Kb.cell {C S : Nat} {w W : World} (h : Kb C S w W) {a : Addr} (ha : a.block < w.heap.size) (h1 : a.block ≠ C) (h2 : a.block ≠ S) : W.cell? a = w.cell? a :=
  World.cell?_of_block (h.block a.block ha h1 h2)
theorem Kb.blk {C S : Nat} {w W : World} (h : Kb C S w W) {b : Nat} {arr : Array Value} {t : TypeId} (hb : Blk w b arr t) (h1 : b ≠ C) (h2 : b ≠ S) : Blk W b arr t :=
  (h.block b hb.lt h1 h2).trans hb

/-- Between two rounds of the loop in Table.Locked. -/
structure JJ (w : World) (C S : Nat) (rec : Loop) (t : Addr) (c : Int) (k : Nat) (W : World) : Prop where
  kb : Kb C S w W
  calls : Blk W C #[.int .i64 c] 3
  seen : Blk W S #[.int .i64 k] 3
  tb : Blk W w.heap.size #[.pointer (some t)] 99
  rb : Blk W (w.heap.size + 1) #[.bool false] 4
  de : W.heap[w.heap.size + 2]? = some (.deferred (some []))
  lo : W.heap[w.heap.size + 3]? = some (.loop rec)

theorem JJ.setC {w : World} {C S : Nat} {rec : Loop} {t : Addr} {c c' : Int} {k : Nat} {W : World} (h : JJ w C S rec t c k W) (hC : C < w.heap.size) (hne : C ≠ S) : JJ w C S rec t c' k (W.setCell ⟨C, 0, none⟩ (.int .i64 c')) :=
  ⟨h.kb.setCell C 0 _ (.inl rfl), h.calls.set 0 _, h.seen.other hne _ _, h.tb.other (by omega) _ _, h.rb.other (by omega) _ _, heap_set_other h.de (by omega) _ _, heap_set_other h.lo (by omega) _ _⟩
theorem JJ.setS {w : World} {C S : Nat} {rec : Loop} {t : Addr} {c : Int} {k k' : Nat} {W : World} (h : JJ w C S rec t c k W) (hS : S < w.heap.size) (hne : C ≠ S) (x : Int) (hx : x = (k' : Int)) : JJ w C S rec t c k' (W.setCell ⟨S, 0, none⟩ (.int .i64 x)) := by
  subst hx
  exact ⟨h.kb.setCell S 0 _ (.inr (.inl rfl)), h.calls.other (Ne.symm hne) _ _, h.seen.set 0 _, h.tb.other (by omega) _ _, h.rb.other (by omega) _ _, heap_set_other h.de (by omega) _ _, heap_set_other h.lo (by omega) _ _⟩
theorem JJ.put {w : World} {C S : Nat} {rec rec' : Loop} {t : Addr} {c : Int} {k : Nat} {W : World} (h : JJ w C S rec t c k W) (hC : C < w.heap.size) (hS : S < w.heap.size) : JJ w C S rec' t c k (W.putObj (w.heap.size + 3) (.loop rec')) :=
  ⟨h.kb.putObj _ _ (by omega), h.calls.put (by omega) _, h.seen.put (by omega) _, h.tb.put (by omega) _, h.rb.put (by omega) _, (World.putObj_heap_other (by omega)).trans h.de, World.putObj_heap_same (Array.getElem?_eq_some_iff.1 h.lo).1⟩

end Lkd
end Go.Proofs.Ybulkcos
