import Derived.Test.YbulkcosLocked
namespace Go.Proofs.Ybulkcos
open Go.RowKit
set_option linter.unusedVariables false
set_option linter.unusedSimpArgs false

namespace Lkd
/-- What the walk is told of the keys. -/
def Keys (w : World) (ao : Option Addr) (len : Nat) : Prop := len = 0 ∨ ∃ b off, ao = some ⟨b, off, none⟩ ∧ b < w.heap.size ∧ ∀ i, i < len → ∃ s, w.cell? ⟨b, off + i, none⟩ = some (.string s)

/-- The world ahead of locked. -/
def W4 (w : World) (kv : Value) (r : Int) : World := (((w.alloc (.cells #[kv] 41)).alloc (.cells (lkArr 0 r) 68)).alloc (.cells #[.int .i64 0] 3)).alloc (.cells #[.int .i64 0] 3)

theorem w4_blks (w : World) (kv : Value) (r : Int) : Blk (W4 w kv r) w.heap.size #[kv] 41 ∧ Blk (W4 w kv r) (w.heap.size + 1) (lkArr 0 r) 68 ∧ Blk (W4 w kv r) (w.heap.size + 2) #[.int .i64 0] 3 ∧ Blk (W4 w kv r) (w.heap.size + 3) #[.int .i64 0] 3 ∧ (W4 w kv r).heap.size = w.heap.size + 4 ∧ Below w.heap.size w (W4 w kv r) := by
  have t1 := Blk.new w #[kv] 41
  have t2 := Blk.new (w.alloc (.cells #[kv] 41)) (lkArr 0 r) 68
  have t3 := Blk.new ((w.alloc (.cells #[kv] 41)).alloc (.cells (lkArr 0 r) 68)) #[.int .i64 0] 3
  have t4 := Blk.new (((w.alloc (.cells #[kv] 41)).alloc (.cells (lkArr 0 r) 68)).alloc (.cells #[.int .i64 0] 3)) #[.int .i64 0] 3
  simp only [World.size_alloc] at t2 t3 t4
  exact ⟨((t1.alloc _).alloc _).alloc _, (t2.alloc _).alloc _, t3.alloc _, t4, by simp [W4], ((((Below.refl _ _).alloc (Nat.le_refl _) _).alloc (by simp) _).alloc (by simp; omega) _).alloc (by simp; omega) _⟩

/-- locked, in the world ahead of it. -/
theorem locked_both (ao : Option Addr) (len cap : Nat) (r : Int) (w : World) (hlen : len ≤ 1024) (hk : Keys w ao len) :
    ∃ c k : Int, ((r == 0) = true ∧ c = 0 ∧ k = 0 ∨ (r == 0) = false ∧ c = 1 ∧ k = len) ∧
    Calls Yba.prog 16 #[.pointer (some ⟨w.heap.size + 1, 0, none⟩), .func (.func 15) #[] #[.pointer (some ⟨w.heap.size + 2, 0, none⟩), .pointer (some ⟨w.heap.size, 0, none⟩), .pointer (some ⟨w.heap.size + 3, 0, none⟩)]] (W4 w (.slice ao len cap) r)
      fun e w' => e = .returned (.bool false) ∧ Kb (w.heap.size + 2) (w.heap.size + 3) (W4 w (.slice ao len cap) r) w' ∧ Blk w' (w.heap.size + 2) #[.int .i64 c] 3 ∧ Blk w' (w.heap.size + 3) #[.int .i64 k] 3 := by
  obtain ⟨t1, t2, t3, t4, hs, hb⟩ := w4_blks w (.slice ao len cap) r
  by_cases hr : r = 0
  · subst hr
    refine ⟨0, 0, .inl ⟨rfl, rfl, rfl⟩, (locked_zero (w.heap.size + 1) _ _ (t2.cell 11)).mono ?_⟩
    rintro e w' ⟨rfl, rfl⟩
    exact ⟨rfl, Kb.refl _ _ _, t3, t4⟩
  · have hr' : (r == 0) = false := by simp [hr]
    refine ⟨1, len, .inr ⟨hr', rfl, rfl⟩, ?_⟩
    rcases hk with h0 | ⟨b, off, rfl, hbl, hc⟩
    · exact locked_run (w.heap.size + 1) (w.heap.size + 2) w.heap.size (w.heap.size + 3) 0 0 len cap r ao _ hr' hlen (fun h => by omega) t3 t4 t1 t2 (by omega) (by omega) (by omega) (by omega) (by omega) (by omega) (fun i hi => by omega)
    · exact locked_run (w.heap.size + 1) (w.heap.size + 2) w.heap.size (w.heap.size + 3) b off len cap r _ _ hr' hlen (fun h => rfl) t3 t4 t1 t2 (by omega) (by omega) (by omega) (by omega) (by omega) (by omega) (fun i hi => by
        obtain ⟨s, hs'⟩ := hc i hi
        exact ⟨by omega, by omega, by omega, by omega, s, (hb.cell (p := ⟨b, off + i, none⟩) hbl).trans hs'⟩)

set_option maxRecDepth 100000 in
set_option maxHeartbeats 800000 in
theorem law_go (ao : Option Addr) (len cap : Nat) (r : Int) (w : World) (hlen : len ≤ 1024) (hk : Keys w ao len) :
    Calls Yba.prog 6 #[.int .i64 r, .slice ao len cap] w fun e w' => e = .returned (.bool true) ∧ Below w.heap.size w w' := by
  have hmf : ∀ (fn : Fn) (first cap : Array Value) (w : World), (Instr.makeFunc fn first cap).run Yba.prog w = .ok (.func fn first cap) w := fun _ _ _ _ => rfl
  obtain ⟨c, k, hck, hL⟩ := locked_both ao len cap r w hlen hk
  have HL : Hid _ := hL
  have HC : Hid _ := hck
  clear hL hk hck
  go_enter Yba.func6, Yba.ntmps6
  go_wp2_with (go_at_call 14; refine (Mu.store64 (w.heap.size + 1) 11 0 r _ (by simp [go_sem]) (by simp [go_sem])).mono ?_; rintro e w' ⟨rfl, rfl⟩)
  refine Calls.mono HL.out ?_
  rintro e w' ⟨rfl, k1, k2, k3⟩
  obtain ⟨t1, t2, t3, t4, hs, hb⟩ := w4_blks w (.slice ao len cap) r
  have u1 : Blk w' w.heap.size #[.slice ao len cap] 41 := k1.blk t1 (by omega) (by omega)
  have u2 : Blk w' (w.heap.size + 1) (lkArr 0 r) 68 := k1.blk t2 (by omega) (by omega)
  have v2 := u2.set 0 (.int .i32 1)
  have x2 := v2.set 0 (.int .i32 0)
  have c0 : w'.cell? ⟨w.heap.size + 1, 0, none⟩ = some (.int .i32 0) := u2.cell 0
  have f0 := u2.free 0
  have c0' : (w'.setCell ⟨w.heap.size + 1, 0, none⟩ (.int .i32 1)).cell? ⟨w.heap.size + 1, 0, none⟩ = some (.int .i32 1) := v2.cell 0
  have f0' := v2.free 0
  have c11 : ((w'.setCell ⟨w.heap.size + 1, 0, none⟩ (.int .i32 1)).setCell ⟨w.heap.size + 1, 0, none⟩ (.int .i32 0)).cell? ⟨w.heap.size + 1, 11, none⟩ = some (.int .i64 r) := x2.cell 11
  have cc : w'.cell? ⟨w.heap.size + 1 + 1, 0, none⟩ = some (.int .i64 c) := k2.cell 0
  have cs : w'.cell? ⟨w.heap.size + 1 + 1 + 1, 0, none⟩ = some (.int .i64 k) := k3.cell 0
  have ck : w'.cell? ⟨w.heap.size, 0, none⟩ = some (.slice ao len cap) := u1.cell 0
  have hB : Below w.heap.size w w' := hb.trans ⟨k1.os, k1.tape, k1.output, by have := k1.size; omega, fun j hj => k1.block j (by omega) (by omega) (by omega)⟩
  have HB : Hid _ := hB
  clear HL k1 k2 k3 t1 t2 t3 t4 hs hb u1 u2 v2 x2 hB
  rcases HC.out with ⟨hr, rfl, rfl⟩ | ⟨hr, rfl, rfl⟩
  · clear HC
    go_wp2_with (first
      | (go_at_call 17; refine (Mu.try_free (w.heap.size + 1) 0 _ c0 f0).mono ?_; rintro e w' ⟨rfl, rfl⟩)
      | (go_at_call 18; refine (Mu.unlock_held (w.heap.size + 1) 0 _ c0' f0').mono ?_; rintro e w' ⟨rfl, rfl⟩)
      | (go_at_call 19; refine (Mu.load64 (w.heap.size + 1) 11 r _ c11).mono ?_; rintro e w' ⟨rfl, rfl⟩))
    go_ret
    exact ⟨rfl, (HB.out.setCell (by simp) _).setCell (by simp) _⟩
  · clear HC
    go_wp2_with (first
      | (go_at_call 17; refine (Mu.try_free (w.heap.size + 1) 0 _ c0 f0).mono ?_; rintro e w' ⟨rfl, rfl⟩)
      | (go_at_call 18; refine (Mu.unlock_held (w.heap.size + 1) 0 _ c0' f0').mono ?_; rintro e w' ⟨rfl, rfl⟩)
      | (go_at_call 19; refine (Mu.load64 (w.heap.size + 1) 11 r _ c11).mono ?_; rintro e w' ⟨rfl, rfl⟩))
    go_ret
    exact ⟨by simp, (HB.out.setCell (by simp) _).setCell (by simp) _⟩

theorem law_any (ao : Option Addr) (len cap : Nat) (r : Int) (w : World) (hk : Keys w ao len) :
    Calls Yba.prog 6 #[.int .i64 r, .slice ao len cap] w fun e w' => e = .returned (.bool true) ∧ Below w.heap.size w w' := by
  by_cases hlen : len ≤ 1024
  · exact law_go ao len cap r w hlen hk
  · clear hk
    have hl : (1024 : Int) < (len : Int) := by omega
    go_enter Yba.func6, Yba.ntmps6
    go_wp2
    go_ret
    exact ⟨rfl, (Below.refl _ _).alloc (Nat.le_refl _) _⟩
end Lkd
end Go.Proofs.Ybulkcos
