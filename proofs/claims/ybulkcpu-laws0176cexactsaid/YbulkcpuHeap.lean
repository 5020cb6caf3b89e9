import Derived.Test.YbulkcpuRows
import Derived.WalkKit
import Derived.WalkSpells
import Derived.WalkLawsBesides
import Derived.Deep.QuietTactic
import Derived.BigQuiet
import Derived.Deep.DeepCutAuto
import Derived.Deep.CutBlock
import Derived.Deep.RegionLaw
import Derived.Maps.AppendAt
namespace Go.Proofs.Ybulkcpu
open Go.RowKit
set_option linter.unusedVariables false
set_option linter.unusedSimpArgs false

namespace Exa
/-- Block b holds just these cells, of element type t, none frozen. -/
def Blk (w : World) (b : Nat) (arr : Array Value) (t : TypeId) : Prop := w.heap[b]? = some (.cells arr t (0, 0))

theorem Blk.lt {w : World} {b : Nat} {arr : Array Value} {t : TypeId} (h : Blk w b arr t) : b < w.heap.size := (Array.getElem?_eq_some_iff.1 h).1
theorem Blk.cell {w : World} {b : Nat} {arr : Array Value} {t : TypeId} (h : Blk w b arr t) (i : Nat) : w.cell? ⟨b, i, none⟩ = arr[i]? := by
  unfold Blk at h
  simp [World.cell?, h]
theorem Blk.free {w : World} {b : Nat} {arr : Array Value} {t : TypeId} (h : Blk w b arr t) (i : Nat) : w.frozen? ⟨b, i, none⟩ = false := by
  unfold Blk at h
  simp [World.frozen?, h]
theorem Blk.set {w : World} {b : Nat} {arr : Array Value} {t : TypeId} (h : Blk w b arr t) (i : Nat) (v : Value) : Blk (w.setCell ⟨b, i, none⟩ v) b (arr.setIfInBounds i v) t := by
  unfold Blk at *
  simp [World.setCell, Array.getElem?_modify, h]
theorem heap_set_other {w : World} {b b' : Nat} {o : Obj} (h : w.heap[b]? = some o) (hne : b' ≠ b) (i : Nat) (v : Value) : (w.setCell ⟨b', i, none⟩ v).heap[b]? = some o := by
  simp [World.setCell, Array.getElem?_modify, hne, h]
theorem Blk.other {w : World} {b b' : Nat} {arr : Array Value} {t : TypeId} (h : Blk w b arr t) (hne : b' ≠ b) (i : Nat) (v : Value) : Blk (w.setCell ⟨b', i, none⟩ v) b arr t := heap_set_other h hne i v
theorem heap_alloc_old {w : World} {b : Nat} {ob : Obj} (h : w.heap[b]? = some ob) (o : Obj) : (w.alloc o).heap[b]? = some ob := by
  have hl : b < w.heap.size := (Array.getElem?_eq_some_iff.1 h).1
  show (w.heap.push o)[b]? = _
  rw [Array.getElem?_push_lt hl]
  rw [Array.getElem?_eq_getElem hl] at h
  exact h
theorem Blk.alloc {w : World} {b : Nat} {arr : Array Value} {t : TypeId} (h : Blk w b arr t) (o : Obj) : Blk (w.alloc o) b arr t := heap_alloc_old h o
theorem Blk.new (w : World) (arr : Array Value) (t : TypeId) : Blk (w.alloc (.cells arr t)) w.heap.size arr t := by
  unfold Blk
  show (w.heap.push _)[w.heap.size]? = _
  simp
theorem Blk.drewN {w : World} {b : Nat} {arr : Array Value} {t : TypeId} (h : Blk w b arr t) (n : Nat) : Blk (w.drewN n) b arr t := h
theorem Blk.drew {w : World} {b : Nat} {arr : Array Value} {t : TypeId} (h : Blk w b arr t) : Blk w.drew b arr t := h
theorem blk_ne {w : World} {b b' : Nat} {arr arr' : Array Value} {t t' : TypeId} (h : Blk w b arr t) (h' : Blk w b' arr' t') (ht : t ≠ t') : b ≠ b' := by
  rintro rfl
  unfold Blk at h h'
  rw [h] at h'
  simp only [Option.some.injEq, Obj.cells.injEq] at h'
  exact ht h'.2.1

/-- Old blocks lie as they lay, but for blocks whose element type is hot. -/
structure Kp (H : List TypeId) (w w' : World) : Prop where
  size : w.heap.size ≤ w'.heap.size
  block : ∀ b arr t, Blk w b arr t → t ∉ H → Blk w' b arr t

theorem Kp.refl (H : List TypeId) (w : World) : Kp H w w := ⟨Nat.le_refl _, fun _ _ _ h _ => h⟩
theorem Kp.trans {H : List TypeId} {a b c : World} (h : Kp H a b) (k : Kp H b c) : Kp H a c := ⟨Nat.le_trans h.size k.size, fun _ _ _ x y => k.block _ _ _ (h.block _ _ _ x y) y⟩
theorem Kp.wide {H H' : List TypeId} {a b : World} (h : Kp H a b) (hs : ∀ t, t ∈ H → t ∈ H') : Kp H' a b := ⟨h.size, fun _ _ _ x y => h.block _ _ _ x (fun hc => y (hs _ hc))⟩
theorem Kp.of_below {H : List TypeId} {w w' : World} (h : Below w.heap.size w w') : Kp H w w' :=
  ⟨h.size, fun b arr t hb _ => by unfold Blk at *; rw [h.block b (Array.getElem?_eq_some_iff.1 hb).1]; exact hb⟩
theorem Kp.alloc {H : List TypeId} {w w' : World} (h : Kp H w w') (o : Obj) : Kp H w (w'.alloc o) := ⟨by have := h.size; simp; omega, fun _ _ _ x y => (h.block _ _ _ x y).alloc o⟩
theorem Kp.setCell {H : List TypeId} {w w' : World} (h : Kp H w w') {b : Nat} {arr : Array Value} {t : TypeId} (hb : Blk w' b arr t) (ht : t ∈ H) (i : Nat) (v : Value) : Kp H w (w'.setCell ⟨b, i, none⟩ v) :=
  ⟨by have := h.size; simp; omega, fun b' arr' t' x y => (h.block _ _ _ x y).other (blk_ne hb (h.block _ _ _ x y) (fun e => y (e ▸ ht))) _ _⟩
theorem Kp.grown {H : List TypeId} {w w' w2 : World} (h : Kp H w w') {base : Nat} {e : TypeId} {size : Nat} {v : Value} {n : Nat} {xs : List Value} (ho : w'.ownsRow base e size v n xs) (hg : w'.grownBy w2 v.ownBlock) (he : e ∈ H) : Kp H w w2 := by
  refine ⟨Nat.le_trans h.size hg.size, fun b arr t x y => ?_⟩
  have hb := h.block _ _ _ x y
  have hne : some b ≠ v.ownBlock := by
    rcases ho.2 with ⟨rfl, _⟩ | ⟨g, cap, cur, rfl, h1, h2, _⟩
    · simp [Value.ownBlock]
    · simp only [Value.ownBlock, ne_eq, Option.some.injEq]
      exact blk_ne hb h2 (fun e' => y (e' ▸ he))
  unfold Blk at *
  rw [hg.block b (Array.getElem?_eq_some_iff.1 hb).1 hne]
  exact hb

/-- An owned row keeps under what leaves its type alone. -/
theorem own_kp {H : List TypeId} {w w' : World} (h : Kp H w w') {base : Nat} {e : TypeId} {size : Nat} {v : Value} {n : Nat} {xs : List Value} (ho : w.ownsRow base e size v n xs) (he : e ∉ H) : w'.ownsRow base e size v n xs := by
  rcases ho with ⟨h0, ⟨rfl, rfl⟩ | ⟨g, cap, cur, rfl, h1, h2, h3⟩⟩
  · exact ⟨h0, .inl ⟨rfl, rfl⟩⟩
  · exact ⟨h0, .inr ⟨g, cap, cur, rfl, h1, h.block _ _ _ h2 he, h3⟩⟩
/-- The base may be lowered. -/
theorem own_base {w : World} {base base' : Nat} {e : TypeId} {size : Nat} {v : Value} {n : Nat} {xs : List Value} (ho : w.ownsRow base e size v n xs) (hb : base' ≤ base) : w.ownsRow base' e size v n xs := by
  rcases ho with ⟨h0, ⟨rfl, rfl⟩ | ⟨g, cap, cur, rfl, h1, h2, h3⟩⟩
  · exact ⟨h0, .inl ⟨rfl, rfl⟩⟩
  · exact ⟨h0, .inr ⟨g, cap, cur, rfl, by omega, h2, h3⟩⟩
theorem own_shape {w : World} {base : Nat} {e : TypeId} {size : Nat} {v : Value} {n : Nat} {xs : List Value} (h : w.ownsRow base e size v n xs) : ∃ ao cap, v = .slice ao n cap := by
  rcases h with ⟨h0, ⟨rfl, rfl⟩ | ⟨g, cap, cur, rfl, h1, h2, h3⟩⟩
  · exact ⟨none, 0, rfl⟩
  · exact ⟨_, cap, rfl⟩
theorem own_some {w : World} {base : Nat} {e : TypeId} {size : Nat} {v : Value} {n : Nat} {xs : List Value} (h : w.ownsRow base e size v n xs) (hn : 0 < n) : ∃ g cap, v = .slice (some ⟨g, 0, none⟩) n cap := by
  rcases h with ⟨h0, ⟨rfl, rfl⟩ | ⟨g, cap, cur, rfl, h1, h2, h3⟩⟩
  · omega
  · exact ⟨_, cap, rfl⟩
theorem own_ne {w : World} {base : Nat} {e : TypeId} {size : Nat} {v : Value} {n : Nat} {xs : List Value} {B : Nat} {arr : Array Value} {t : TypeId} (h : w.ownsRow base e size v n xs) (hB : Blk w B arr t) (ht : t ≠ e) : v.ownBlock ≠ some B := by
  rcases h.2 with ⟨rfl, _⟩ | ⟨g, cap, cur, rfl, hb, hg, _⟩
  · simp [Value.ownBlock]
  · simp only [Value.ownBlock, ne_eq, Option.some.injEq]
    exact blk_ne hg hB (Ne.symm ht)

/-- append onto a row of the call's own, as one step of a region that draws. -/
theorem step_append_own {P : Program} {ops : Array Oper} {o : Oper} {a : Act} {w : World} {K : Act → World → Prop} {Q : Exit → Act → World → Prop} {E : Prop}
    (hg : o.guard = none) (s x : Operand) (t : TypeId) (hop : o.op = Op.call { callee := Callee.builtin Builtin.append, args := #[s, x], argTypes := #[t, t] })
    (base : Nat) (e : TypeId) (i : TypeInfo) (z : Value) (size bytes : Nat) (ht : P.underlying t = some (.slice e)) (hi : P.info? e = some i) (hz : i.zero = some z)
    (hsize : i.size = size) (hby : i.bytes = bytes) (hzs : z.cells.size = size) (hsz : 0 < size)
    (v : Value) (n : Nat) (xs : List Value) (hs : a.eval s = v) (hown : w.ownsRow base e size v n xs)
    (ad : Addr) (m c : Nat) (news : List Value) (hx : a.eval x = .slice (some ad) m c) (hl : news.length = m * size) (hnews : ∀ j u, news[j]? = some u → w.cell? (ad.add j) = some u) (h1 : ∀ u ∈ news, u.oneCell' = true)
    (h63 : n + m ≤ maxLen) (hbytes : (n + m) * bytes ≤ 140737488355328) (hbase : base ≤ w.heap.size)
    (h : ∀ v' w', w'.ownsRow base e size v' (n + m) (xs ++ news) → w.grownBy w' v.ownBlock → (v' = .slice none 0 0 ↔ v = .slice none 0 0 ∧ m = 0) → (v'.ownBlock = v.ownBlock ∨ v'.ownBlock = some w.heap.size) → K (a.put o.dst v') w') :
    if Region.wanted o (yielded ops a.tmps) = true then Oper.wp P o a w K Q else E := by
  have hw : Region.wanted o (yielded ops a.tmps) = true := by simp [Region.wanted, hg]
  rw [if_pos hw]
  obtain ⟨v', w', hr, h2, h3, h4, h5⟩ := run_append_own_at (P := P) w base t o.type e i z size bytes ht hi hz hsize hby hzs hsz v n xs hown ad m c news hl hnews h1 h63 hbytes hbase
  unfold Oper.wp execOp
  simp only [hop, resolve, invoke, builtin, Sem.run_bind, Sem.run_pure, Result.andThen_ok, List.map_toArray, List.map_cons, List.map_nil, hs, hx, hr]
  exact h v' w' h2 h3 h4 h5

/-- The cells of one new element lie where the temporary row lies. -/
theorem cells_new (w : World) (xs : List Value) (t : TypeId) : ∀ j u, xs[j]? = some u → (w.alloc (.cells xs.toArray t)).cell? ((⟨w.heap.size, 0, none⟩ : Addr).add j) = some u := by
  intro j u hj
  have h := (Blk.new w xs.toArray t).cell j
  rw [Addr.add_lit, Nat.zero_add, h]
  simpa using hj

theorem info50 : (Yba.prog.info? 50).map (fun i => (i.zero, i.size, i.bytes)) = some (some (.agg #[.string ByteArray.empty, .string ByteArray.empty, .bool false]), 3, 40) := by kernel_rfl
theorem info46 : (Yba.prog.info? 46).map (fun i => (i.zero, i.size, i.bytes)) = some (some (.pointer none), 1, 8) := by kernel_rfl
theorem info51 : (Yba.prog.info? 51).map (fun i => (i.zero, i.size, i.bytes)) = some (some (.pointer none), 1, 8) := by kernel_rfl
theorem info56 : (Yba.prog.info? 56).map (fun i => (i.zero, i.size, i.bytes)) = some (some (.pointer none), 1, 8) := by kernel_rfl
theorem info59 : (Yba.prog.info? 59).map (fun i => (i.zero, i.size, i.bytes)) = some (some (.pointer none), 1, 8) := by kernel_rfl
theorem info70 : (Yba.prog.info? 70).map (fun i => (i.zero, i.size, i.bytes)) = some (some (.agg #[.pointer none, .int .i64 0]), 2, 16) := by kernel_rfl

theorem info_parts {t : TypeId} {z : Value} {s b : Nat} (h : (Yba.prog.info? t).map (fun i => (i.zero, i.size, i.bytes)) = some (some z, s, b)) : ∃ i, Yba.prog.info? t = some i ∧ i.zero = some z ∧ i.size = s ∧ i.bytes = b := by
  cases hi : Yba.prog.info? t with
  | none => rw [hi] at h; simp at h
  | some i =>
    rw [hi] at h
    simp at h
    exact ⟨i, rfl, h.1, h.2.1, h.2.2⟩

/-- The string "color", "v". -/
def colorB : ByteArray := ⟨#[99, 111, 108, 111, 114]⟩
def vB : ByteArray := ⟨#[118]⟩

/-- What zzs0176cattrs leaves. -/
def AttrsPost (k : Int) (w : World) (e : Ending) (w' : World) : Prop := ∃ (n cap : Nat) (ao : Option Addr), (n : Int) = k % 3 ∧ e = .returned (.slice ao n cap) ∧ Below w.heap.size w w'
/-- Between two rounds. -/
def ARel (n : Nat) (w : World) (v i : Value) (wr : World) : Prop := ∃ (j : Nat) (xs : List Value), j ≤ n ∧ i = .int .i64 j ∧ wr.ownsRow w.heap.size 50 3 v j xs ∧ Below w.heap.size w wr

set_option maxHeartbeats 1000000 in
/-- zzs0176cattrs: a slice of k % 3 attributes in a row of its own. -/
theorem attrs_any (k : Int) (w : World) (h0 : 0 ≤ k) (h255 : k ≤ 255) : Calls Yba.prog 7 #[.int .u8 k] w (AttrsPost k w) := by
  obtain ⟨i0, hi0, hz0, hz1, hz2⟩ := info_parts info50
  obtain ⟨n, hn⟩ : ∃ n : Nat, k % 3 = (n : Int) := ⟨(k % 3).toNat, by omega⟩
  have hn3 : n < 3 := by omega
  have HN : Hid (k % 3 = (n : Int)) := hn
  clear hn
  go_enter Yba.func7, Yba.ntmps7
  go_wp2
  go_loopw [4, 5] (fun v i wr => ARel n w v i wr) (fun _ i _ => n - (intOf i).toNat)
  case atStart => exact ⟨0, [], Nat.zero_le _, rfl, World.ownsRow_nil _ _ _ _, Below.refl _ _⟩
  case round =>
    obtain ⟨j, xs, hj, rfl, hown, hB⟩ := hrel
    obtain ⟨ao, cap, rfl⟩ := own_shape hown
    have HO : Hid (wr.ownsRow w.heap.size 50 3 (.slice ao j cap) j xs) := hown
    have HB : Hid (Below w.heap.size w wr) := hB
    have hbs := hB.size
    clear hown hB
    by_cases hlt : j < n
    · have hlt' : (j : Int) < k % 3 := by have := HN.out; omega
      go_wp2_with (at_builtin; (refine wpList_append_own_at _ rfl _ _ 37 rfl w.heap.size 50 i0 _ 3 40 Yba.underlying37 hi0 hz0 hz1 hz2 rfl (by decide) _ j xs rfl (HO.out.alloc _) ⟨wr.heap.size, 0, none⟩ 1 1 [.string colorB, .string vB, .bool false] rfl rfl ?c1 ?c2 ?c3 ?c4 ?c5 ?_))
      case c1 => exact cells_new wr [.string colorB, .string vB, .bool false] 50
      case c2 => intro u hu; simp at hu; rcases hu with rfl | rfl | rfl <;> rfl
      case c3 => unfold maxLen; omega
      case c4 => omega
      case c5 => simp; omega
      intro v' w1 hown' hgrow hnil hat
      have hB1 : Below w.heap.size w w1 := (HB.out.alloc hbs _).grown hgrow (by simp; omega) (fun k hk => (HO.out.lt k hk).1)
      have HO1 : Hid (ARel n w v' (.int .i64 ((j : Int) + 1)) w1) := ⟨j + 1, _, by omega, by simp, hown', hB1⟩
      clear hown' hgrow hnil hat hB1
      go_wp2
      go_roundw
      case rel => first | exact HO1.out | ((repeat apply Exists.intro); exact ⟨HO1.out, rfl⟩)
      case measure => simp [intOf]; omega
    · have hlt' : ¬ (j : Int) < k % 3 := by have := HN.out; omega
      go_wp2
      go_ret
      exact ⟨j, cap, ao, by have := HN.out; omega, rfl, HB.out⟩
end Exa
end Go.Proofs.Ybulkcpu
