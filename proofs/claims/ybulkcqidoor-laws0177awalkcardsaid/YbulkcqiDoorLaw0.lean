import Derived.Test.YbulkcqiDoorLoopM
import Derived.Test.YbulkcqiDoorSmall
import Derived.Laws.CopyOwn
namespace Go.Proofs.YbulkcqiDoor
open Go.RowKit
set_option linter.unusedVariables false
set_option linter.unusedSimpArgs false

namespace Wlk
/-- What the law leaves. -/
def LPost (W : World) (e : Ending) (w' : World) : Prop := e = .returned (.bool true) ∧ Below W.heap.size W w'

/-- Three rows of n + 1 Booleans: what is marked. -/
structure VisAt (w : World) (base vb n : Nat) (bk ck : Nat → Nat) (V : Nat → Nat → Bool) : Prop where
  top : Row w vb 36 (fun k => .slice (some ⟨bk k, 0, none⟩) (n + 1) (ck k)) 3
  rows : ∀ k, k < 3 → Row w (bk k) 4 (fun p => .bool (V k p)) (n + 1)
  ne : ∀ k k', k < 3 → k' < 3 → bk k = bk k' → k = k'
  ge : ∀ k, k < 3 → base ≤ bk k

theorem VisAt.kp {H : List TypeId} {w w' : World} (k : Kp H w w') {base vb n : Nat} {bk ck : Nat → Nat} {V : Nat → Nat → Bool} (h : VisAt w base vb n bk ck V) (h1 : 36 ∉ H) (h2 : 4 ∉ H) : VisAt w' base vb n bk ck V :=
  ⟨h.top.kp k h1, fun j hj => (h.rows j hj).kp k h2, h.ne, h.ge⟩
theorem VisAt.cellTop {w : World} {base vb n : Nat} {bk ck : Nat → Nat} {V : Nat → Nat → Bool} (h : VisAt w base vb n bk ck V) {k : Nat} (hk : k < 3) : w.cell? ⟨vb, k, none⟩ = some (.slice (some ⟨bk k, 0, none⟩) (n + 1) (ck k)) := h.top.cell hk
theorem VisAt.cell {w : World} {base vb n : Nat} {bk ck : Nat → Nat} {V : Nat → Nat → Bool} (h : VisAt w base vb n bk ck V) {k p : Nat} (hk : k < 3) (hp : p ≤ n) : w.cell? ⟨bk k, p, none⟩ = some (.bool (V k p)) := (h.rows k hk).cell (by omega)
theorem VisAt.free {w : World} {base vb n : Nat} {bk ck : Nat → Nat} {V : Nat → Nat → Bool} (h : VisAt w base vb n bk ck V) {k : Nat} (hk : k < 3) (p : Nat) : w.frozen? ⟨bk k, p, none⟩ = false := (h.rows k hk).free p
theorem VisAt.mark {w : World} {base vb n : Nat} {bk ck : Nat → Nat} {V V' : Nat → Nat → Bool} (h : VisAt w base vb n bk ck V) {k p : Nat} (hk : k < 3) (hp : p ≤ n) (hV : ∀ a q, V' a q = (V a q || (a == k && q == p))) :
    VisAt (w.setCell ⟨bk k, p, none⟩ (.bool true)) base vb n bk ck V' := by
  obtain ⟨arr, hb, hf⟩ := h.rows k hk
  obtain ⟨tarr, tb, tf⟩ := h.top
  refine ⟨⟨tarr, tb.other (blk_ne hb tb (by decide)) _ _, tf⟩, fun j hj => ?_, h.ne, h.ge⟩
  by_cases e : j = k
  · subst e
    refine Row.set (f := fun q => .bool (V j q)) ⟨arr, hb, hf⟩ (by omega) (fun q hq => ?_)
    show Value.bool (V' j q) = _
    rw [hV]
    by_cases hqp : q = p
    · simp [hqp]
    · simp [hqp]
  · have hr := (h.rows j hj).other (b' := bk k) (fun x => e (h.ne j k hj hk x.symm)) p (.bool true)
    refine hr.congr (fun q hq => ?_)
    rw [hV]
    simp [e]
theorem VisAt.kpr {H : List TypeId} {w0 w : World} {base vb n : Nat} {bk ck : Nat → Nat} {V : Nat → Nat → Bool} (h : VisAt w base vb n bk ck V) {k : Nat} (hk : k < 3) (kp : Kp H w0 w) (hH : 4 ∈ H) (p : Nat) (v : Value) : Kp H w0 (w.setCell ⟨bk k, p, none⟩ v) := by
  obtain ⟨arr, hb, hf⟩ := h.rows k hk
  exact kp.setCell hb hH p v
theorem VisAt.congr {w : World} {base vb n : Nat} {bk ck : Nat → Nat} {V V' : Nat → Nat → Bool} (h : VisAt w base vb n bk ck V) (hV : V' = V) : VisAt w base vb n bk ck V' := hV ▸ h

/-- The ASCII characters of s; those of its first k bytes. -/
def sOf (s : ByteArray) (c : Nat) : Bool := decide (∃ (i : Nat) (h : i < s.size), s[i].toNat = c)
def sUp (s : ByteArray) (k c : Nat) : Bool := decide (∃ (i : Nat) (h : i < s.size), i < k ∧ s[i].toNat = c)
theorem sOf_iff (s : ByteArray) (c : Nat) : sOf s c = true ↔ ∃ (i : Nat) (h : i < s.size), s[i].toNat = c := by unfold sOf; exact decide_eq_true_iff
theorem sUp_iff (s : ByteArray) (k c : Nat) : sUp s k c = true ↔ ∃ (i : Nat) (h : i < s.size), i < k ∧ s[i].toNat = c := by unfold sUp; exact decide_eq_true_iff
theorem sUp_zero (s : ByteArray) (c : Nat) : sUp s 0 c = false := by
  cases h : sUp s 0 c with
  | false => rfl
  | true => obtain ⟨i, _, h2, _⟩ := (sUp_iff s 0 c).1 h; omega
theorem sUp_full (s : ByteArray) (k c : Nat) (hk : s.size ≤ k) : sUp s k c = sOf s c := by
  rw [Bool.eq_iff_iff, sUp_iff, sOf_iff]
  exact ⟨fun ⟨i, h, _, e⟩ => ⟨i, h, e⟩, fun ⟨i, h, e⟩ => ⟨i, h, by omega, e⟩⟩
theorem sUp_succ (s : ByteArray) (k : Nat) (hk : k < s.size) (c : Nat) : sUp s (k + 1) c = (sUp s k c || c == s[k].toNat) := by
  rw [Bool.eq_iff_iff, Bool.or_eq_true, sUp_iff, sUp_iff, beq_iff_eq]
  constructor
  · rintro ⟨i, h, h1, h2⟩
    by_cases e : i = k
    · subst e; exact .inr h2.symm
    · exact .inl ⟨i, h, by omega, h2⟩
  · rintro (⟨i, h, h1, h2⟩ | h)
    · exact ⟨i, h, by omega, h2⟩
    · exact ⟨k, hk, by omega, h.symm⟩
theorem tk_iff (s : ByteArray) (D : Nat → Nat) (q : Nat) : Tk (sOf s) D q ↔ InS s (D q : Int) := by
  unfold Tk InS
  rw [sOf_iff]
  constructor
  · rintro ⟨h1, i, h, h2⟩; exact ⟨by omega, i, h, by omega⟩
  · rintro ⟨h1, i, h, h2⟩; exact ⟨by omega, i, h, by omega⟩

theorem setW_step (S S' : Nat → Bool) (c : Nat) (h : ∀ x, S' x = (S x || x == c)) (j : Nat) : setW S' j = if j = c / 64 then setW S j ||| 2 ^ (c % 64) else setW S j := by
  apply Nat.eq_of_testBit_eq
  intro b
  split
  · rename_i hj
    rw [Nat.testBit_or, setW_testBit, setW_testBit, h, Nat.testBit_two_pow]
    by_cases hb : b < 64
    · by_cases e : c % 64 = b
      · have : j * 64 + b = c := by omega
        simp [hb, e, this]
      · have : ¬ j * 64 + b = c := by omega
        simp [hb, e, this]
    · have : ¬ c % 64 = b := by omega
      simp [hb, this]
  · rename_i hj
    rw [setW_testBit, setW_testBit, h]
    by_cases hb : b < 64
    · have : (j * 64 + b == c) = false := by rw [beq_eq_false_iff_ne]; omega
      rw [this, Bool.or_false]
    · simp [hb]
theorem setW_zero (s : ByteArray) (j : Nat) : setW (sUp s 0) j = 0 := by
  apply Nat.eq_of_testBit_eq
  intro b
  rw [setW_testBit, sUp_zero]
  simp
theorem setW_full (s : ByteArray) (k j : Nat) (hk : s.size ≤ k) : setW (sUp s k) j = setW (sOf s) j := by
  apply Nat.eq_of_testBit_eq
  intro b
  rw [setW_testBit, setW_testBit, sUp_full s k _ hk]

/-- What the walk is told of the input. -/
structure Inp (W : World) (aD : Option Addr) (n : Nat) (D : Nat → Nat) (aK : Option Addr) (nK : Nat) (Kf : Nat → Nat) : Prop where
  data : ∀ i, i < n → ∃ (b off : Nat), aD = some ⟨b, off, none⟩ ∧ b < W.heap.size ∧ W.cell? ⟨b, off + i, none⟩ = some (.int .u8 (D i)) ∧ D i ≤ 255
  marks : ∀ i, i < nK → ∃ (b off : Nat), aK = some ⟨b, off, none⟩ ∧ b < W.heap.size ∧ W.cell? ⟨b, off + i, none⟩ = some (.int .u16 (Kf i)) ∧ Kf i ≤ 65535
  tab : Tab 0 W

/-- The law's memory once the matcher stands. -/
structure Core (W w : World) (M : MC) (vb : Nat) (bk ck : Nat → Nat) (far : Int) (V : Nat → Nat → Bool) (S : Nat → Bool) (D : Nat → Nat) : Prop where
  mat : MatAt w M far (.slice none 0 0) V
  vis : VisAt w W.heap.size vb M.n bk ck V
  tabs : Tabs w M S
  data : DataAt w M.dv M.n D
  below : Below W.heap.size W w
  mb : W.heap.size ≤ M.mb
  wb : W.heap.size ≤ M.wb
  ins : ∀ k p, M.n < p → V k p = false

/-- What is laid into exp so far: V's states before (p, k). -/
def upTo (V : Nat → Nat → Bool) (p ins : Nat) : Nat → Nat → Bool := fun k q => V k q && (decide (q < p) || (q == p && decide (k < ins)))
theorem upTo_zero (V : Nat → Nat → Bool) : upTo V 0 0 = fun _ _ => false := by
  funext k q
  simp [upTo]
theorem upTo_next (V : Nat → Nat → Bool) (p k q : Nat) (hk : k < 3) : upTo V p 3 k q = upTo V (p + 1) 0 k q := by
  unfold upTo
  congr 1
  by_cases h1 : q < p
  · simp [h1, Nat.lt_succ_of_lt h1]
  · by_cases h2 : q = p
    · subst h2; simp [hk]
    · have : ¬ q < p + 1 := by omega
      simp [h1, h2, this]
theorem upTo_mark (V : Nat → Nat → Bool) (p ins : Nat) (h : V ins p = true) : upTo V p (ins + 1) = mark1 (upTo V p ins) ins p := by
  funext k q
  unfold upTo mark1
  by_cases h1 : q = p
  · subst h1
    by_cases h2 : k = ins
    · subst h2; simp [h]
    · have : (k < ins + 1) = (k < ins) := by apply propext; omega
      simp [h2, this]
  · have hq : (q == p) = false := by rw [beq_eq_false_iff_ne]; exact h1
    simp [hq]
theorem upTo_skip (V : Nat → Nat → Bool) (p ins : Nat) (h : V ins p = false) : upTo V p (ins + 1) = upTo V p ins := by
  funext k q
  unfold upTo
  by_cases h1 : q = p
  · subst h1
    by_cases h2 : k = ins
    · subst h2; simp [h]
    · have : (k < ins + 1) = (k < ins) := by apply propext; omega
      simp [this]
  · have hq : (q == p) = false := by rw [beq_eq_false_iff_ne]; exact h1
    simp [hq]
theorem upTo_all (V : Nat → Nat → Bool) (n : Nat) (h : ∀ k p, n < p → V k p = false) : upTo V (n + 1) 0 = V := by
  funext k q
  unfold upTo
  by_cases h1 : q < n + 1
  · simp [h1]
  · simp [h k q (by omega)]

/-- A row of the call's own, of one-cell elements. -/
theorem row_of_own {w : World} {base : Nat} {e : TypeId} {g n cap : Nat} {xs : List Value} (h : w.ownsRow base e 1 (.slice (some ⟨g, 0, none⟩) n cap) n xs) (f : Nat → Value) (hf : ∀ i, i < n → xs[i]? = some (f i)) : Row w g e f n := by
  rcases h with ⟨h0, ⟨h1, _⟩ | ⟨g', cap', cur, h1, h2, h3, h4⟩⟩
  · simp at h1
  · simp only [Value.slice.injEq, Option.some.injEq, Addr.mk.injEq] at h1
    obtain ⟨⟨rfl, _⟩, _, rfl⟩ := h1
    have h3' : Blk w g cur e := h3
    refine ⟨cur, h3', fun i hi => ?_⟩
    have hc := World.ownsRow.cells (h := (⟨h0, .inr ⟨g, cap, cur, rfl, h2, h3, h4⟩⟩ : w.ownsRow base e 1 (.slice (some ⟨g, 0, none⟩) n cap) n xs)) rfl i (f i) (hf i hi)
    rw [Addr.add_lit, Nat.zero_add, h3'.cell] at hc
    exact hc
theorem Below.grown0 {B : Nat} {a w w' : World} (h : Below B a w) (hg : w.grownBy w' none) (hB : B ≤ w.heap.size) : Below B a w' := h.grown hg hB (fun k hk => by cases hk)
theorem Kp.grown0 {H : List TypeId} {w w' w2 : World} (h : Kp H w w') (hg : w'.grownBy w2 none) : Kp H w w2 :=
  ⟨Nat.le_trans h.size hg.size, fun b arr t x y => by
    have hb := h.block _ _ _ x y
    unfold Blk at *
    rw [hg.block b (Array.getElem?_eq_some_iff.1 hb).1 (by simp)]
    exact hb⟩
theorem made1 (z : Value) (n i : Nat) (hi : i < n) (hz : z.cells = #[z]) : (madeCells z.cells (n * 1)).toList[i]? = some z := by
  rw [hz]
  simp [madeCells, hi, Nat.mod_one]
end Wlk
end Go.Proofs.YbulkcqiDoor
