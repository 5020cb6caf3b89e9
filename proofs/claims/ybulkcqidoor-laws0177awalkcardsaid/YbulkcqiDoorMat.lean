import Derived.Test.YbulkcqiDoorHeap
import Derived.Test.YbulkcqiDoorBits
import Derived.BigRegion
import Derived.Shelf.Spec.TrailingZeros
import Derived.Below
namespace Go.Proofs.YbulkcqiDoor
open Go.RowKit
set_option linter.unusedVariables false
set_option linter.unusedSimpArgs false

namespace Wlk
/-- The table in its variable (block 0 of the globals' is given as g). -/
def Tab (g : Nat) (w : World) : Prop := ∀ j, j < 64 → w.cell? ⟨g, j, none⟩ = some (.int .u8 (Lib.deBruijn64tab.getD j 0))

/-- Block b holds, in its first N cells, f's values. -/
def Row (w : World) (b : Nat) (t : TypeId) (f : Nat → Value) (N : Nat) : Prop := ∃ arr, Blk w b arr t ∧ ∀ i, i < N → arr[i]? = some (f i)

theorem Row.cell {w : World} {b : Nat} {t : TypeId} {f : Nat → Value} {N : Nat} (h : Row w b t f N) {i : Nat} (hi : i < N) : w.cell? ⟨b, i, none⟩ = some (f i) := by
  obtain ⟨arr, h1, h2⟩ := h
  rw [h1.cell]
  exact h2 i hi
theorem Row.free {w : World} {b : Nat} {t : TypeId} {f : Nat → Value} {N : Nat} (h : Row w b t f N) (i : Nat) : w.frozen? ⟨b, i, none⟩ = false := by
  obtain ⟨arr, h1, h2⟩ := h
  exact h1.free i
theorem Row.set {w : World} {b : Nat} {t : TypeId} {f g : Nat → Value} {N : Nat} (h : Row w b t f N) {i : Nat} {v : Value} (hi : i < N) (hg : ∀ j, j < N → g j = if j = i then v else f j) : Row (w.setCell ⟨b, i, none⟩ v) b t g N := by
  obtain ⟨arr, h1, h2⟩ := h
  refine ⟨_, h1.set i v, fun j hj => ?_⟩
  rw [hg j hj, Array.getElem?_setIfInBounds]
  have hs : i < arr.size := (Array.getElem?_eq_some_iff.1 (h2 i hi)).1
  by_cases e : i = j
  · subst e; simp [hs]
  · have e' : ¬ j = i := fun x => e x.symm
    simp [e, e', h2 j hj]
theorem Row.congr {w : World} {b : Nat} {t : TypeId} {f g : Nat → Value} {N : Nat} (h : Row w b t f N) (hg : ∀ j, j < N → g j = f j) : Row w b t g N := by
  obtain ⟨arr, h1, h2⟩ := h
  exact ⟨arr, h1, fun j hj => by rw [hg j hj]; exact h2 j hj⟩
theorem Row.kp {H : List TypeId} {w w' : World} (k : Kp H w w') {b : Nat} {t : TypeId} {f : Nat → Value} {N : Nat} (h : Row w b t f N) (ht : t ∉ H) : Row w' b t f N := by
  obtain ⟨arr, h1, h2⟩ := h
  exact ⟨arr, k.block _ _ _ h1 ht, h2⟩
theorem Row.lt {w : World} {b : Nat} {t : TypeId} {f : Nat → Value} {N : Nat} (h : Row w b t f N) : b < w.heap.size := by
  obtain ⟨arr, h1, h2⟩ := h
  exact h1.lt
theorem Row.alloc {w : World} {b : Nat} {t : TypeId} {f : Nat → Value} {N : Nat} (h : Row w b t f N) (o : Obj) : Row (w.alloc o) b t f N := by
  obtain ⟨arr, h1, h2⟩ := h
  exact ⟨arr, h1.alloc o, h2⟩
theorem Row.other {w : World} {b : Nat} {t : TypeId} {f : Nat → Value} {N : Nat} (h : Row w b t f N) {b' : Nat} (hne : b' ≠ b) (i : Nat) (v : Value) : Row (w.setCell ⟨b', i, none⟩ v) b t f N := by
  obtain ⟨arr, h1, h2⟩ := h
  exact ⟨arr, h1.other hne i v, h2⟩

/-- Where a matcher's parts lie. -/
structure MC where
  mb : Nat
  pb : Nat
  gb : Nat
  ib : Nat
  ab : Nat
  wb : Nat
  ic : Nat
  ac : Nat
  wc : Nat
  n : Nat
  dv : Value
  e : Nat

def MC.N (M : MC) : Nat := (M.n / 64 + 1) * 3

/-- A matcher's parts lie there; V is what is marked. -/
structure MatAt (w : World) (M : MC) (far : Int) (stk : Value) (V : Nat → Nat → Bool) : Prop where
  m : ∃ c1 c8, Blk w M.mb #[.pointer (some ⟨M.pb, 0, none⟩), c1, M.dv, .int .i64 0, .int .i64 M.e, .int .i64 far, .slice (some ⟨M.wb, 0, none⟩) M.N M.wc, stk, c8] 49
  p : ∃ c1 cs, Blk w M.pb (#[.pointer (some ⟨M.gb, 0, none⟩), c1, .slice (some ⟨M.ab, 0, none⟩) 3 M.ac] ++ cs) 45
  g : ∃ cs, Blk w M.gb (#[.slice (some ⟨M.ib, 0, none⟩) 3 M.ic] ++ cs) 41
  wd : Row w M.wb 25 (fun i => .int .u64 (wordOf V i)) M.N

theorem MatAt.kp {H : List TypeId} {w w' : World} (k : Kp H w w') {M : MC} {far : Int} {stk : Value} {V : Nat → Nat → Bool} (h : MatAt w M far stk V) (h1 : 49 ∉ H) (h2 : 45 ∉ H) (h3 : 41 ∉ H) (h4 : 25 ∉ H) : MatAt w' M far stk V := by
  obtain ⟨⟨c1, c8, m⟩, ⟨d1, ds, p⟩, ⟨es, g⟩, wd⟩ := h
  exact ⟨⟨c1, c8, k.block _ _ _ m h1⟩, ⟨d1, ds, k.block _ _ _ p h2⟩, ⟨es, k.block _ _ _ g h3⟩, wd.kp k h4⟩

theorem MatAt.c0 {w : World} {M : MC} {far : Int} {stk : Value} {V : Nat → Nat → Bool} (h : MatAt w M far stk V) : w.cell? ⟨M.mb, 0, none⟩ = some (.pointer (some ⟨M.pb, 0, none⟩)) := by obtain ⟨c1, c8, m⟩ := h.m; exact m.cell 0
theorem MatAt.c2 {w : World} {M : MC} {far : Int} {stk : Value} {V : Nat → Nat → Bool} (h : MatAt w M far stk V) : w.cell? ⟨M.mb, 2, none⟩ = some M.dv := by obtain ⟨c1, c8, m⟩ := h.m; exact m.cell 2
theorem MatAt.c3 {w : World} {M : MC} {far : Int} {stk : Value} {V : Nat → Nat → Bool} (h : MatAt w M far stk V) : w.cell? ⟨M.mb, 3, none⟩ = some (.int .i64 0) := by obtain ⟨c1, c8, m⟩ := h.m; exact m.cell 3
theorem MatAt.c4 {w : World} {M : MC} {far : Int} {stk : Value} {V : Nat → Nat → Bool} (h : MatAt w M far stk V) : w.cell? ⟨M.mb, 4, none⟩ = some (.int .i64 M.e) := by obtain ⟨c1, c8, m⟩ := h.m; exact m.cell 4
theorem MatAt.c5 {w : World} {M : MC} {far : Int} {stk : Value} {V : Nat → Nat → Bool} (h : MatAt w M far stk V) : w.cell? ⟨M.mb, 5, none⟩ = some (.int .i64 far) := by obtain ⟨c1, c8, m⟩ := h.m; exact m.cell 5
theorem MatAt.c6 {w : World} {M : MC} {far : Int} {stk : Value} {V : Nat → Nat → Bool} (h : MatAt w M far stk V) : w.cell? ⟨M.mb, 6, none⟩ = some (.slice (some ⟨M.wb, 0, none⟩) M.N M.wc) := by obtain ⟨c1, c8, m⟩ := h.m; exact m.cell 6
theorem MatAt.c7 {w : World} {M : MC} {far : Int} {stk : Value} {V : Nat → Nat → Bool} (h : MatAt w M far stk V) : w.cell? ⟨M.mb, 7, none⟩ = some stk := by obtain ⟨c1, c8, m⟩ := h.m; exact m.cell 7
theorem MatAt.free {w : World} {M : MC} {far : Int} {stk : Value} {V : Nat → Nat → Bool} (h : MatAt w M far stk V) (i : Nat) : w.frozen? ⟨M.mb, i, none⟩ = false := by obtain ⟨c1, c8, m⟩ := h.m; exact m.free i
theorem MatAt.p0 {w : World} {M : MC} {far : Int} {stk : Value} {V : Nat → Nat → Bool} (h : MatAt w M far stk V) : w.cell? ⟨M.pb, 0, none⟩ = some (.pointer (some ⟨M.gb, 0, none⟩)) := by
  obtain ⟨c1, c8, m⟩ := h.p
  rw [m.cell 0, Array.getElem?_append_left (by simp)]
  rfl
theorem MatAt.p2 {w : World} {M : MC} {far : Int} {stk : Value} {V : Nat → Nat → Bool} (h : MatAt w M far stk V) : w.cell? ⟨M.pb, 2, none⟩ = some (.slice (some ⟨M.ab, 0, none⟩) 3 M.ac) := by
  obtain ⟨c1, c8, m⟩ := h.p
  rw [m.cell 2, Array.getElem?_append_left (by simp)]
  rfl
theorem MatAt.g0 {w : World} {M : MC} {far : Int} {stk : Value} {V : Nat → Nat → Bool} (h : MatAt w M far stk V) : w.cell? ⟨M.gb, 0, none⟩ = some (.slice (some ⟨M.ib, 0, none⟩) 3 M.ic) := by
  obtain ⟨c1, m⟩ := h.g
  rw [m.cell 0, Array.getElem?_append_left (by simp)]
  rfl

theorem MatAt.drew {w : World} {M : MC} {far : Int} {stk : Value} {V : Nat → Nat → Bool} (h : MatAt w M far stk V) : MatAt w.drew M far stk V := ⟨h.m, h.p, h.g, h.wd⟩

/-- A store into the words. -/
theorem MatAt.mark {w : World} {M : MC} {far : Int} {stk : Value} {V V' : Nat → Nat → Bool} (h : MatAt w M far stk V) {idx X : Nat} (hi : idx < M.N) (hx : ∀ j, wordOf V' j = if j = idx then X else wordOf V j) : MatAt (w.setCell ⟨M.wb, idx, none⟩ (.int .u64 X)) M far stk V' := by
  obtain ⟨⟨c1, c8, m⟩, ⟨d1, ds, p⟩, ⟨es, g⟩, wd⟩ := h
  obtain ⟨arr, wb, wf⟩ := wd
  refine ⟨⟨c1, c8, m.other (blk_ne wb m (by decide)) _ _⟩, ⟨d1, ds, p.other (blk_ne wb p (by decide)) _ _⟩, ⟨es, g.other (blk_ne wb g (by decide)) _ _⟩, Row.set (f := fun i => .int .u64 (wordOf V i)) ⟨arr, wb, wf⟩ hi (fun j hj => ?_)⟩
  show Value.int .u64 (wordOf V' j) = _
  rw [hx j]
  split <;> rfl

theorem MatAt.kpw {H : List TypeId} {w0 w : World} {M : MC} {far : Int} {stk : Value} {V : Nat → Nat → Bool} (h : MatAt w M far stk V) (k : Kp H w0 w) (hH : 25 ∈ H) (i : Nat) (v : Value) : Kp H w0 (w.setCell ⟨M.wb, i, none⟩ v) := by
  obtain ⟨arr, wb, wf⟩ := h.wd
  exact k.setCell wb hH i v

/-- A store into far. -/
theorem MatAt.setFar {w : World} {M : MC} {far : Int} {stk : Value} {V : Nat → Nat → Bool} (h : MatAt w M far stk V) (x : Int) : MatAt (w.setCell ⟨M.mb, 5, none⟩ (.int .i64 x)) M x stk V := by
  obtain ⟨⟨c1, c8, m⟩, ⟨d1, ds, p⟩, ⟨es, g⟩, ⟨arr, wb, wf⟩⟩ := h
  exact ⟨⟨c1, c8, m.set 5 _⟩, ⟨d1, ds, p.other (blk_ne m p (by decide)) _ _⟩, ⟨es, g.other (blk_ne m g (by decide)) _ _⟩, ⟨arr, wb.other (blk_ne m wb (by decide)) _ _, wf⟩⟩

/-- A store into stack. -/
theorem MatAt.setStk {w : World} {M : MC} {far : Int} {stk : Value} {V : Nat → Nat → Bool} (h : MatAt w M far stk V) (x : Value) : MatAt (w.setCell ⟨M.mb, 7, none⟩ x) M far x V := by
  obtain ⟨⟨c1, c8, m⟩, ⟨d1, ds, p⟩, ⟨es, g⟩, ⟨arr, wb, wf⟩⟩ := h
  exact ⟨⟨c1, c8, m.set 7 _⟩, ⟨d1, ds, p.other (blk_ne m p (by decide)) _ _⟩, ⟨es, g.other (blk_ne m g (by decide)) _ _⟩, ⟨arr, wb.other (blk_ne m wb (by decide)) _ _, wf⟩⟩

theorem MatAt.kpm {H : List TypeId} {w0 w : World} {M : MC} {far : Int} {stk : Value} {V : Nat → Nat → Bool} (h : MatAt w M far stk V) (k : Kp H w0 w) (hH : 49 ∈ H) (i : Nat) (v : Value) : Kp H w0 (w.setCell ⟨M.mb, i, none⟩ v) := by
  obtain ⟨c1, c8, m⟩ := h.m
  exact k.setCell m hH i v

theorem mask_nat (nn : Nat) (h : nn ≤ 64) : 18446744073709551615 / 2 ^ (64 - nn) = 2 ^ nn - 1 := by
  have e : 2 ^ nn * 2 ^ (64 - nn) = 18446744073709551616 := by rw [← Nat.pow_add, show nn + (64 - nn) = 64 by omega]
  have p1 := Nat.two_pow_pos nn
  have p2 := Nat.two_pow_pos (64 - nn)
  generalize 2 ^ nn = x at *
  generalize 2 ^ (64 - nn) = y at *
  obtain ⟨z, rfl⟩ : ∃ z, x = z + 1 := ⟨x - 1, by omega⟩
  rw [Nat.add_mul, Nat.one_mul] at e
  apply Nat.div_eq_of_lt_le
  · simp; omega
  · simp only [Nat.add_sub_cancel]; rw [Nat.add_mul, Nat.one_mul]; omega

theorem mask_int (nn s : Nat) (h : nn + s ≤ 64) : IntKind.u64.wrap ((18446744073709551615 : Int) / 2 ^ (64 - nn) * 2 ^ s) = (((2 ^ nn - 1) * 2 ^ s : Nat) : Int) := by
  have e : (18446744073709551615 : Int) / 2 ^ (64 - nn) * 2 ^ s = (((2 ^ nn - 1) * 2 ^ s : Nat) : Int) := by
    rw [← mask_nat nn (by omega)]
    simp
  have := mask_lt nn s h
  rw [e, IntKind.wrap_u64]
  omega

theorem bit_int (s : Nat) (h : s < 64) : IntKind.u64.wrap ((2 : Int) ^ s) = ((2 ^ s : Nat) : Int) := by
  have : 2 ^ s < 18446744073709551616 := Nat.pow_lt_pow_right (a := 2) (n := 64) (by decide) h
  have e : (2 : Int) ^ s = ((2 ^ s : Nat) : Int) := by simp
  rw [e, IntKind.wrap_u64]
  generalize (2 ^ s : Nat) = y at *
  omega

set_option maxHeartbeats 1000000 in
theorem tz64_core (x k idx : Nat) (w : World) (hx0 : ((x : Int) == 0) = false)
    (key : IntKind.u64.wrap (bits BinOp.and IntKind.u64 (x : Int) (IntKind.u64.wrap (-(x : Int))) * 285870213051353865) / 288230376151711744 = (idx : Int))
    (hi : idx < 64) (hk : k < 64) (hcell : w.cell? ⟨0, idx, none⟩ = some (.int .u8 k)) :
    Calls Ybad.prog 8 #[.int .u64 x] w fun e w' => e = .returned (.int .i64 k) ∧ w' = w := by
  go_enter Ybad.func8, Ybad.ntmps8
  go_wp2_with (simp only [key])
  go_ret
  exact ⟨rfl, rfl⟩

theorem tz64 (x : Nat) (hx : x < 18446744073709551616) (hx0 : x ≠ 0) (w : World) (hT : Tab 0 w) :
    Calls Ybad.prog 8 #[.int .u64 x] w fun e w' => e = .returned (.int .i64 (Lib.ctz 64 x)) ∧ w' = w := by
  obtain ⟨hlow, hk⟩ := Lib.lowest_bit 64 x hx0 hx
  obtain ⟨hi, htab⟩ := Lib.deBruijn64_at _ hk
  have hcell := hT _ hi
  rw [htab] at hcell
  exact tz64_core x _ _ w (by simp; omega) (tz64_key x _ hx hx0 hlow) hi hk hcell
end Wlk
end Go.Proofs.YbulkcqiDoor
