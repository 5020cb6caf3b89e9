import Derived.Test.YbulkcqiDoorFirst
import Derived.Test.YbulkcqiDoorSet
namespace Go.Proofs.YbulkcqiDoor
open Go.RowKit
set_option linter.unusedVariables false
set_option linter.unusedSimpArgs false

namespace Wlk
/-- Word k of a set of ASCII characters. -/
def setW (S : Nat → Bool) (k : Nat) : Nat := ofBits (fun b => S (k * 64 + b)) 64
theorem setW_testBit (S : Nat → Bool) (k b : Nat) : (setW S k).testBit b = (decide (b < 64) && S (k * 64 + b)) := ofBits_testBit _ 64 b
theorem setW_lt (S : Nat → Bool) (k : Nat) : setW S k < 18446744073709551616 := by
  have h : setW S k < 2 ^ 64 := by
    apply Nat.lt_pow_two_of_testBit
    intro j hj
    rw [setW_testBit]
    have : ¬ j < 64 := by omega
    simp [this]
  exact h
theorem and_bit (x s : Nat) : x &&& 2 ^ s = if x.testBit s then 2 ^ s else 0 := by
  apply Nat.eq_of_testBit_eq
  intro b
  rw [Nat.testBit_and, Nat.testBit_two_pow]
  by_cases h : s = b
  · subst h
    by_cases hx : x.testBit s <;> simp [hx]
  · by_cases hx : x.testBit s
    · rw [if_pos hx, Nat.testBit_two_pow]; simp [h]
    · rw [if_neg hx]; simp [h]
theorem set_test (S : Nat → Bool) (x : Nat) (hx : x < 128) : (bits BinOp.and IntKind.u64 ((setW S (x / 64) : Nat) : Int) (IntKind.u64.wrap ((2 : Int) ^ (x % 64))) == 0) = !S x := by
  have hl : 2 ^ (x % 64) < 18446744073709551616 := Nat.pow_lt_pow_right (a := 2) (n := 64) (by decide) (by omega)
  rw [bit_int _ (by omega), bits_and_u64_nat _ _ (setW_lt S _) hl, and_bit, setW_testBit]
  have e : x / 64 * 64 + x % 64 = x := by omega
  have e2 : x % 64 < 64 := by omega
  rw [e]
  have p := Nat.two_pow_pos (x % 64)
  generalize 2 ^ (x % 64) = y at *
  cases hS : S x
  · simp [e2]
  · simp [e2]
    omega

/-- The data slice reads D. -/
def DataAt (w : World) (dv : Value) (n : Nat) (D : Nat → Nat) : Prop := ∃ ao dc, dv = .slice ao n dc ∧ (0 < n → ∃ db, ao = some ⟨db, 0, none⟩ ∧ Row w db 5 (fun i => .int .u8 (D i)) n)

/-- D reads a character of S at q. -/
def Tk (S : Nat → Bool) (D : Nat → Nat) (q : Nat) : Prop := D q < 128 ∧ S (D q) = true
/-- E is where the window or the run of S's characters ends. -/
def EndAt (S : Nat → Bool) (D : Nat → Nat) (pos e E : Nat) : Prop := pos ≤ E ∧ E ≤ e ∧ (∀ q, pos ≤ q → q < E → Tk S D q) ∧ (E = e ∨ ¬ Tk S D E)
theorem EndAt.unique {S : Nat → Bool} {D : Nat → Nat} {pos e E E' : Nat} (h : EndAt S D pos e E) (h' : EndAt S D pos e E') : E = E' := by
  obtain ⟨a1, a2, a3, a4⟩ := h
  obtain ⟨b1, b2, b3, b4⟩ := h'
  rcases Nat.lt_trichotomy E E' with hl | hl | hl
  · rcases a4 with x | x
    · omega
    · exact absurd (b3 E a1 hl) x
  · exact hl
  · rcases b4 with x | x
    · omega
    · exact absurd (a3 E' b1 hl) x

/-- The walk from pos stops at last. -/
def Stops (V : Nat → Nat → Bool) (pos E last : Nat) (going : Bool) : Prop :=
  pos ≤ last ∧ last ≤ E ∧ (∀ q, pos ≤ q → q < last → V 2 q = false) ∧ (∀ q, pos < q → q ≤ last → V 0 q = false) ∧
  ((going = true ∧ last = E ∧ V 2 last = false) ∨ (going = false ∧ (V 2 last = true ∨ (V 2 last = false ∧ last < E ∧ V 0 (last + 1) = true))))
theorem Stops.le {V : Nat → Nat → Bool} {pos E l l' : Nat} {g g' : Bool} (h : Stops V pos E l g) (h' : Stops V pos E l' g') : l' ≤ l := by
  obtain ⟨a1, a2, a3, a4, a5⟩ := h
  obtain ⟨b1, b2, b3, b4, b5⟩ := h'
  apply Nat.le_of_not_lt
  intro hl
  have x1 := b3 l a1 hl
  have x2 := b4 (l + 1) (by omega) hl
  rcases a5 with ⟨_, y, _⟩ | ⟨_, y | ⟨_, _, y⟩⟩
  · omega
  · rw [x1] at y; cases y
  · rw [x2] at y; cases y
theorem Stops.unique {V : Nat → Nat → Bool} {pos E l l' : Nat} {g g' : Bool} (h : Stops V pos E l g) (h' : Stops V pos E l' g') : l = l' ∧ g = g' := by
  have e : l = l' := Nat.le_antisymm (h'.le h) (h.le h')
  subst e
  refine ⟨rfl, ?_⟩
  obtain ⟨a1, a2, a3, a4, a5⟩ := h
  obtain ⟨b1, b2, b3, b4, b5⟩ := h'
  rcases a5 with ⟨rfl, y, y'⟩ | ⟨rfl, y⟩ <;> rcases b5 with ⟨rfl, z, z'⟩ | ⟨rfl, z⟩
  · rfl
  · rcases z with z | ⟨_, z, _⟩
    · rw [y'] at z; cases z
    · omega
  · rcases y with y | ⟨_, y, _⟩
    · rw [z'] at y; cases y
    · omega
  · rfl

/-- What the two searches say. -/
def FirstAt (V : Nat → Nat → Bool) (a lo hi r : Nat) : Prop := lo ≤ r ∧ r ≤ hi + 1 ∧ (∀ q, lo ≤ q → q < r → V a q = false) ∧ (r ≤ hi → V a r = true)
theorem stops_loop {V : Nat → Nat → Bool} {pos E b l : Nat} (hE : pos ≤ E) (hb : FirstAt V 2 pos E b) (hl : FirstAt V 0 (pos + 1) E l) (h : l ≤ b) (h2 : l ≤ E) : Stops V pos E (l - 1) false := by
  obtain ⟨a1, a2, a3, a4⟩ := hb
  obtain ⟨b1, b2, b3, b4⟩ := hl
  refine ⟨by omega, by omega, fun q x y => a3 q x (by omega), fun q x y => b3 q (by omega) (by omega), .inr ⟨rfl, .inr ⟨a3 _ (by omega) (by omega), by omega, ?_⟩⟩⟩
  rw [show l - 1 + 1 = l by omega]
  exact b4 h2
theorem stops_body {V : Nat → Nat → Bool} {pos E b l : Nat} (hE : pos ≤ E) (hb : FirstAt V 2 pos E b) (hl : FirstAt V 0 (pos + 1) E l) (h : ¬ (l ≤ b ∧ l ≤ E)) (h2 : b ≤ E) : Stops V pos E b false := by
  obtain ⟨a1, a2, a3, a4⟩ := hb
  obtain ⟨b1, b2, b3, b4⟩ := hl
  exact ⟨by omega, by omega, fun q x y => a3 q x (by omega), fun q x y => b3 q (by omega) (by omega), .inr ⟨rfl, .inl (a4 h2)⟩⟩
theorem stops_end {V : Nat → Nat → Bool} {pos E b l : Nat} (hE : pos ≤ E) (hb : FirstAt V 2 pos E b) (hl : FirstAt V 0 (pos + 1) E l) (h : ¬ (l ≤ b ∧ l ≤ E)) (h2 : ¬ b ≤ E) : Stops V pos E E true := by
  obtain ⟨a1, a2, a3, a4⟩ := hb
  obtain ⟨b1, b2, b3, b4⟩ := hl
  exact ⟨by omega, by omega, fun q x y => a3 q x (by omega), fun q x y => b3 q (by omega) (by omega), .inl ⟨rfl, rfl, a3 _ (by omega) (by omega)⟩⟩

/-- What the walk marks. -/
def marked (V : Nat → Nat → Bool) (pos last : Nat) (going : Bool) : Nat → Nat → Bool := markR (markR V 0 (pos + 1) (last + 1)) 2 pos (if going then last else last + 1)
end Wlk
end Go.Proofs.YbulkcqiDoor
