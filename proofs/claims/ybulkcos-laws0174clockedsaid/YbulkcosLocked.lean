import Derived.Test.YbulkcosRange
namespace Go.Proofs.Ybulkcos
open Go.RowKit
set_option linter.unusedVariables false
set_option linter.unusedSimpArgs false

namespace Lkd
set_option maxRecDepth 100000 in
set_option maxHeartbeats 800000 in
theorem unlock_deferred (b off : Nat) (u : FrameMode) (w : World) (h0 : w.cell? ⟨b, off, none⟩ = some (.int .i32 1)) (f0 : w.frozen? ⟨b, off, none⟩ = false) :
    CallsD Yba.prog 18 #[.pointer (some ⟨b, off, none⟩)] u w fun e u' w' => u' = u ∧ (e = .returned (.tuple #[]) ∧ w' = w.setCell ⟨b, off, none⟩ (.int .i32 0)) := by
  go_enter_d Yba.func18, Yba.ntmps18
  go_wp2_with (go_at_call 28; refine (Mu.iunlock_held b off _ h0 f0).mono ?_; rintro e w' ⟨rfl, rfl⟩)
  go_end0
  exact ⟨rfl, rfl⟩

set_option maxRecDepth 100000 in
set_option maxHeartbeats 800000 in
theorem locked_zero (Lk : Nat) (f : Value) (w : World) (h0 : w.cell? ⟨Lk, 11, none⟩ = some (.int .i64 0)) :
    Calls Yba.prog 16 #[.pointer (some ⟨Lk, 0, none⟩), f] w fun e w' => e = .returned (.bool false) ∧ w = w' := by
  go_enter_defers Yba.func16, Yba.ntmps16
  go_wp2_with (go_at_call 19; refine (Mu.load64 Lk 11 0 _ h0).mono ?_; rintro e w' ⟨rfl, rfl⟩)
  exact ⟨_, results_tmp rfl _ _ _, rfl, rfl⟩

/-- The locker's thirteen cells, its lock in the state m. -/
def lkArr (m : Int) (r : Int) : Array Value := #[.int .i32 m, .int .u32 0, .bool false, .bool false, .map none, .map none, .map none, .map none, .map none, .map none, .map none, .int .i64 r, .int .u64 0]

/-- Locked and unlocked again: the locker's block is as it was. -/
theorem kb_back {Lk C S : Nat} {r : Int} {w w' : World} (bL : Blk w Lk (lkArr 0 r) 68) (h : Kb C S (w.setCell ⟨Lk, 0, none⟩ (.int .i32 1)) w') (hLC : Lk ≠ C) (hLS : Lk ≠ S) : Kb C S w (w'.setCell ⟨Lk, 0, none⟩ (.int .i32 0)) := by
  have b1 : Blk w' Lk ((lkArr 0 r).setIfInBounds 0 (.int .i32 1)) 68 := h.blk (bL.set 0 _) hLC hLS
  have b2 := b1.set 0 (.int .i32 0)
  refine ⟨h.os, h.tape, h.output, ?_, fun k hk h1 h2 => ?_⟩
  · have := h.size
    simpa using this
  · by_cases e : k = Lk
    · subst e
      rw [show w.heap[k]? = some (.cells (lkArr 0 r) 68 (0, 0)) from bL]
      exact b2
    · have h3 := h.block k (by simpa using hk) h1 h2
      have e1 : (w'.setCell ⟨Lk, 0, none⟩ (.int .i32 0)).heap[k]? = w'.heap[k]? := by simp [World.setCell, Array.getElem?_modify, Ne.symm e]
      have e2 : (w.setCell ⟨Lk, 0, none⟩ (.int .i32 1)).heap[k]? = w.heap[k]? := by simp [World.setCell, Array.getElem?_modify, Ne.symm e]
      rw [e1, h3, e2]

set_option maxRecDepth 100000 in
set_option maxHeartbeats 800000 in
theorem locked_run (Lk C K S b off len cap : Nat) (r : Int) (ao : Option Addr) (w : World) (hr : (r == 0) = false) (hlen : len ≤ 1024) (hao : 0 < len → ao = some ⟨b, off, none⟩)
    (bC : Blk w C #[.int .i64 0] 3) (bS : Blk w S #[.int .i64 0] 3) (bK : Blk w K #[.slice ao len cap] 41) (bL : Blk w Lk (lkArr 0 r) 68)
    (hCS : C ≠ S) (hKC : K ≠ C) (hKS : K ≠ S) (hLC : Lk ≠ C) (hLS : Lk ≠ S) (hKL : K ≠ Lk)
    (hk : ∀ i, i < len → b < w.heap.size ∧ b ≠ C ∧ b ≠ S ∧ b ≠ Lk ∧ ∃ s, w.cell? ⟨b, off + i, none⟩ = some (.string s)) :
    Calls Yba.prog 16 #[.pointer (some ⟨Lk, 0, none⟩), .func (.func 15) #[] #[.pointer (some ⟨C, 0, none⟩), .pointer (some ⟨K, 0, none⟩), .pointer (some ⟨S, 0, none⟩)]] w
      fun e w' => e = .returned (.bool false) ∧ Kb C S w w' ∧ Blk w' C #[.int .i64 1] 3 ∧ Blk w' S #[.int .i64 len] 3 := by
  have c0 : w.cell? ⟨Lk, 0, none⟩ = some (.int .i32 0) := bL.cell 0
  have c11 : w.cell? ⟨Lk, 11, none⟩ = some (.int .i64 r) := bL.cell 11
  have f0 := bL.free 0
  have bL1 := bL.set 0 (.int .i32 1)
  have c4 : (w.setCell ⟨Lk, 0, none⟩ (.int .i32 1)).cell? ⟨Lk, 4, none⟩ = some (.map none) := bL1.cell 4
  have HT : Hid _ := locks_any Lk C K S b off len cap ao (w.setCell ⟨Lk, 0, none⟩ (.int .i32 1)) hlen hao (bC.other hLC _ _) (bS.other hLS _ _) (bK.other (Ne.symm hKL) _ _) c4 (by have := bL.lt; simpa using this) hCS hKC hKS hLC hLS
    (fun i hi => by
      obtain ⟨q1, q2, q3, q4, s, hs⟩ := hk i hi
      exact ⟨by simpa using q1, q2, q3, s, by rw [World.cell?_setCell_other _ _ _ _ (by simp [Ne.symm q4])]; exact hs⟩)
  have HB : Hid (Blk w Lk (lkArr 0 r) 68) := bL
  have HB1 : Hid _ := bL1
  clear hk bC bS bK bL bL1 hao c4
  go_enter_defers Yba.func16, Yba.ntmps16
  go_wp2_with (first
    | (go_at_call 19; refine (Mu.load64 Lk 11 r _ c11).mono ?_; rintro e w' ⟨rfl, rfl⟩)
    | (go_at_call 25; refine (Mu.lock_free Lk 0 _ c0 f0).mono ?_; rintro e w' ⟨rfl, rfl⟩)
    | (go_at_call 26; refine Calls.mono HT.out ?_; rintro e w' ⟨rfl, k1, k2, k3⟩))
  have HK : Hid _ := k1
  have b1 : Blk w' Lk ((lkArr 0 r).setIfInBounds 0 (.int .i32 1)) 68 := k1.blk HB1.out hLC hLS
  refine leaves_cons (f := 18) (args := #[.pointer (some ⟨Lk, 0, none⟩)]) (by simp) (by simp [go_sem]) ?_
  refine (unlock_deferred Lk 0 .returning _ (b1.cell 0) (b1.free 0)).mono ?_
  rintro e u' w'' ⟨rfl, rfl, rfl⟩
  exact ⟨_, results_tmp rfl _ _ _, rfl, kb_back HB.out k1 hLC hLS, k2.other hLC _ _, k3.other hLS _ _⟩
end Lkd
end Go.Proofs.Ybulkcos
