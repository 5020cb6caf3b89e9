import Derived.Test.YbulkcqiDoorRows
import Derived.Laws.Bits64b
import Derived.Lib.TrailingZeros
namespace Go.Proofs.YbulkcqiDoor
set_option linter.unusedVariables false
set_option linter.unusedSimpArgs false

namespace Wlk
/-- The number whose first k bits are f's. -/
def ofBits (f : Nat → Bool) : Nat → Nat
  | 0 => 0
  | k + 1 => ofBits f k ||| (if f k then 2 ^ k else 0)

theorem ofBits_testBit (f : Nat → Bool) : ∀ (k b : Nat), (ofBits f k).testBit b = (decide (b < k) && f b)
  | 0, b => by simp [ofBits]
  | k + 1, b => by
    unfold ofBits
    rw [Nat.testBit_or, ofBits_testBit f k b]
    by_cases hf : f k = true
    · rw [if_pos hf, Nat.testBit_two_pow]
      by_cases h : k = b
      · subst h; simp [hf]
      · by_cases h2 : b < k
        · simp [h2, h, Nat.lt_succ_of_lt h2]
        · have h3 : ¬ b < k + 1 := by omega
          simp [h2, h, h3]
    · rw [if_neg hf]
      by_cases h : k = b
      · subst h; simp at hf; simp [hf]
      · by_cases h2 : b < k
        · simp [h2, Nat.lt_succ_of_lt h2]
        · have h3 : ¬ b < k + 1 := by omega
          simp [h2, h3]

/-- The state matrix's word i: 64 positions of instruction i % 3. -/
def wordOf (V : Nat → Nat → Bool) (i : Nat) : Nat := ofBits (fun b => V (i % 3) (i / 3 * 64 + b)) 64

theorem wordOf_testBit (V : Nat → Nat → Bool) (i b : Nat) : (wordOf V i).testBit b = (decide (b < 64) && V (i % 3) (i / 3 * 64 + b)) := ofBits_testBit _ 64 b

theorem wordOf_lt (V : Nat → Nat → Bool) (i : Nat) : wordOf V i < 18446744073709551616 := by
  have h : wordOf V i < 2 ^ 64 := by
    apply Nat.lt_pow_two_of_testBit
    intro j hj
    rw [wordOf_testBit]
    have : ¬ j < 64 := by omega
    simp [this]
  exact h

theorem wordOf_or (V V' : Nat → Nat → Bool) (i m : Nat) (h : ∀ b, b < 64 → V' (i % 3) (i / 3 * 64 + b) = (V (i % 3) (i / 3 * 64 + b) || m.testBit b)) (hm : m < 18446744073709551616) : wordOf V i ||| m = wordOf V' i := by
  apply Nat.eq_of_testBit_eq
  intro b
  rw [Nat.testBit_or, wordOf_testBit, wordOf_testBit]
  by_cases hb : b < 64
  · simp [hb, h b hb]
  · have h2 : m.testBit b = false := by
      apply Nat.testBit_lt_two_pow
      refine Nat.lt_of_lt_of_le hm ?_
      show 2 ^ 64 ≤ _
      exact Nat.pow_le_pow_right (by decide) (by omega)
    simp [hb, h2]

theorem wordOf_congr (V V' : Nat → Nat → Bool) (i : Nat) (h : ∀ b, b < 64 → V' (i % 3) (i / 3 * 64 + b) = V (i % 3) (i / 3 * 64 + b)) : wordOf V i = wordOf V' i := by
  apply Nat.eq_of_testBit_eq
  intro b
  rw [wordOf_testBit, wordOf_testBit]
  by_cases hb : b < 64
  · simp [hb, h b hb]
  · simp [hb]

theorem wordOf_zero (i : Nat) : wordOf (fun _ _ => false) i = 0 := by
  apply Nat.eq_of_testBit_eq
  intro b
  rw [wordOf_testBit]
  simp

/-- V with one state more. -/
def mark1 (V : Nat → Nat → Bool) (a p : Nat) : Nat → Nat → Bool := fun a' p' => V a' p' || (a' == a && p' == p)
/-- V with the states (a, q), lo ≤ q < hi. -/
def markR (V : Nat → Nat → Bool) (a lo hi : Nat) : Nat → Nat → Bool := fun a' p' => V a' p' || (a' == a && decide (lo ≤ p') && decide (p' < hi))

/-- Marking one state is an 'or' at its word. -/
theorem word_mark1 (V : Nat → Nat → Bool) (a p j : Nat) (ha : a < 3) : wordOf (mark1 V a p) j = if j = p / 64 * 3 + a then wordOf V j ||| 2 ^ (p % 64) else wordOf V j := by
  split
  · rename_i h
    subst h
    symm
    have e1 : (p / 64 * 3 + a) % 3 = a := by omega
    have e2 : (p / 64 * 3 + a) / 3 = p / 64 := by omega
    apply wordOf_or
    · intro b hb
      rw [e1, e2, Nat.testBit_two_pow]
      unfold mark1
      congr 1
      by_cases hh : p % 64 = b
      · have : p / 64 * 64 + b = p := by omega
        simp [hh, this]
      · have : ¬ p / 64 * 64 + b = p := by omega
        simp [hh, this]
    · have : p % 64 < 64 := by omega
      show 2 ^ (p % 64) < 2 ^ 64
      exact Nat.pow_lt_pow_right (by decide) this
  · rename_i h
    symm
    apply wordOf_congr
    intro b hb
    unfold mark1
    have : ¬ (j % 3 = a ∧ j / 3 * 64 + b = p) := by rintro ⟨h1, h2⟩; apply h; omega
    by_cases h1 : j % 3 = a
    · have h2 : ¬ j / 3 * 64 + b = p := fun x => this ⟨h1, x⟩
      simp [h2]
    · simp [h1]

theorem mask_testBit (n s b : Nat) (hn : n + s ≤ 64) : ((2 ^ n - 1) * 2 ^ s).testBit b = (decide (s ≤ b) && decide (b < s + n)) := by
  rw [Nat.testBit_mul_two_pow, Nat.testBit_two_pow_sub_one]
  by_cases h : s ≤ b
  · by_cases h2 : b < s + n
    · have : b - s < n := by omega
      simp [h, h2, this]
    · have : ¬ b - s < n := by omega
      simp [h, h2, this]
  · simp [h]

theorem mask_lt (n s : Nat) (hn : n + s ≤ 64) : (2 ^ n - 1) * 2 ^ s < 18446744073709551616 := by
  have h1 : (2 ^ n - 1) * 2 ^ s < 2 ^ n * 2 ^ s := (Nat.mul_lt_mul_right (Nat.two_pow_pos s)).2 (by have := Nat.two_pow_pos n; omega)
  rw [← Nat.pow_add] at h1
  refine Nat.lt_of_lt_of_le h1 ?_
  show _ ≤ 2 ^ 64
  exact Nat.pow_le_pow_right (by decide) hn

/-- Marking n positions within one word is an 'or' at it. -/
theorem word_markR (V : Nat → Nat → Bool) (a lo i n j : Nat) (ha : a < 3) (hl : lo ≤ i) (hn : n + i % 64 ≤ 64) : wordOf (markR V a lo (i + n)) j = if j = i / 64 * 3 + a then wordOf (markR V a lo i) j ||| (2 ^ n - 1) * 2 ^ (i % 64) else wordOf (markR V a lo i) j := by
  split
  · rename_i h
    subst h
    symm
    have e1 : (i / 64 * 3 + a) % 3 = a := by omega
    have e2 : (i / 64 * 3 + a) / 3 = i / 64 := by omega
    apply wordOf_or
    · intro b hb
      rw [e1, e2, mask_testBit n _ b hn]
      unfold markR
      rw [Bool.or_assoc]
      congr 1
      simp only [beq_self_eq_true, Bool.true_and]
      have k1 : (i / 64 * 64 + b < i + n) = (b < i % 64 + n) := propext ⟨fun _ => by omega, fun _ => by omega⟩
      have k2 : (i % 64 ≤ b) = (i ≤ i / 64 * 64 + b) := propext ⟨fun _ => by omega, fun _ => by omega⟩
      simp only [k1, k2]
      by_cases c1 : i ≤ i / 64 * 64 + b
      · have c2 : lo ≤ i / 64 * 64 + b := by omega
        have c3 : ¬ i / 64 * 64 + b < i := by omega
        simp [c1, c2, c3]
      · have c3 : i / 64 * 64 + b < i := by omega
        have c4 : b < i % 64 + n := by omega
        simp [c1, c3, c4]
    · exact mask_lt n _ hn
  · rename_i h
    symm
    apply wordOf_congr
    intro b hb
    unfold markR
    by_cases h1 : j % 3 = a
    · have k : (j / 3 * 64 + b < i + n) = (j / 3 * 64 + b < i) := propext ⟨fun hx => by
        by_cases hy : j / 3 * 64 + b < i
        · exact hy
        · exfalso; apply h; omega, fun _ => by omega⟩
      have kd : decide (j / 3 * 64 + b < i + n) = decide (j / 3 * 64 + b < i) := by rw [decide_eq_decide]; exact Iff.of_eq k
      rw [kd]
    · rw [show (j % 3 == a) = false by simp [h1]]; simp

/-- A shifted word's lowest bit. -/
theorem shift_zero (x s : Nat) (h : x / 2 ^ s = 0) (b : Nat) (hb : s ≤ b) : x.testBit b = false := by
  have e : (x / 2 ^ s).testBit (b - s) = x.testBit (s + (b - s)) := by rw [Nat.testBit_div_two_pow, Nat.add_comm]
  rw [h, Nat.zero_testBit] at e
  rw [show b = s + (b - s) by omega]
  exact e.symm

theorem ctz_spec (x : Nat) (h0 : x ≠ 0) (hx : x < 18446744073709551616) : Lib.ctz 64 x < 64 ∧ x.testBit (Lib.ctz 64 x) = true ∧ ∀ b, b < Lib.ctz 64 x → x.testBit b = false := by
  obtain ⟨m, hm, hk⟩ := Lib.ctzFrom_spec 64 x (by omega) hx
  have e : Lib.ctz 64 x = Lib.ctzFrom 64 x := by simp [Lib.ctz, h0]
  rw [e]
  generalize Lib.ctzFrom 64 x = k at *
  refine ⟨hk, ?_, fun b hb => ?_⟩
  · rw [hm, Nat.mul_comm, Nat.testBit_mul_two_pow]
    simp
  · rw [hm, Nat.mul_comm, Nat.testBit_mul_two_pow]
    have : ¬ k ≤ b := by omega
    simp [this]

/-- The first marked position of a word from position i on. -/
theorem first_in_word (V : Nat → Nat → Bool) (a i : Nat) (ha : a < 3) (h : wordOf V (i / 64 * 3 + a) / 2 ^ (i % 64) ≠ 0) :
    V a (i + Lib.ctz 64 (wordOf V (i / 64 * 3 + a) / 2 ^ (i % 64))) = true ∧ ∀ q, i ≤ q → q < i + Lib.ctz 64 (wordOf V (i / 64 * 3 + a) / 2 ^ (i % 64)) → V a q = false := by
  have hlt : wordOf V (i / 64 * 3 + a) / 2 ^ (i % 64) < 18446744073709551616 := Nat.lt_of_le_of_lt (Nat.div_le_self _ _) (wordOf_lt V _)
  obtain ⟨h1, h2, h3⟩ := ctz_spec _ h hlt
  generalize Lib.ctz 64 (wordOf V (i / 64 * 3 + a) / 2 ^ (i % 64)) = k at *
  have e1 : (i / 64 * 3 + a) % 3 = a := by omega
  have e2 : (i / 64 * 3 + a) / 3 = i / 64 := by omega
  have key : ∀ b, (wordOf V (i / 64 * 3 + a) / 2 ^ (i % 64)).testBit b = (decide (b + i % 64 < 64) && V a (i + b)) := by
    intro b
    rw [Nat.testBit_div_two_pow, wordOf_testBit, e1, e2]
    have : i / 64 * 64 + (b + i % 64) = i + b := by omega
    rw [this]
  refine ⟨?_, fun q hq hq2 => ?_⟩
  · rw [key] at h2
    simp at h2
    exact h2.2
  · have hk : k + i % 64 < 64 := by rw [key] at h2; simp at h2; exact h2.1
    have := h3 (q - i) (by omega)
    rw [key] at this
    have h5 : q - i + i % 64 < 64 := by omega
    have h6 : i + (q - i) = q := by omega
    simpa [h5, h6] using this

theorem none_in_word (V : Nat → Nat → Bool) (a i : Nat) (ha : a < 3) (h : wordOf V (i / 64 * 3 + a) / 2 ^ (i % 64) = 0) (q : Nat) (h1 : i ≤ q) (h2 : q < (i / 64 + 1) * 64) : V a q = false := by
  have e1 : (i / 64 * 3 + a) % 3 = a := by omega
  have e2 : (i / 64 * 3 + a) / 3 = i / 64 := by omega
  have := shift_zero _ _ h (q % 64) (by omega)
  rw [wordOf_testBit, e1, e2] at this
  have e3 : i / 64 * 64 + q % 64 = q := by omega
  have e4 : q % 64 < 64 := by omega
  simpa [e3, e4] using this
end Wlk
end Go.Proofs.YbulkcqiDoor
