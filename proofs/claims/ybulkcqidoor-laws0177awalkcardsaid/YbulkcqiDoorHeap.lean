import Derived.Test.YbulkcqiDoorRows
import Derived.WalkKit
import Derived.WalkSpells
import Derived.WalkLawsBesides
import Derived.Deep.QuietTactic
import Derived.BigQuiet
import Derived.Deep.DeepCutAuto
import Derived.Deep.CutBlock
import Derived.Deep.RegionLaw
import Derived.Maps.AppendAt
namespace Go.Proofs.YbulkcqiDoor
open Go.RowKit
set_option linter.unusedVariables false
set_option linter.unusedSimpArgs false

namespace Wlk
/-- Block b holds just these cells, of element type t, none frozen. -/
def Blk (w : World) (b : Nat) (arr : Array Value) (t : TypeId) : Prop := w.heap[b]? = some (.cells arr t (0, 0))

theorem Blk.lt {w : World} {b : Nat} {arr : Array Value} {t : TypeId} (h : Blk w b arr t) : b < w.heap.size := (Array.getElem?_eq_some_iff.1 h).1
theorem Blk.cell {w : World} {b : Nat} {arr : Array Value} {t : TypeId} (h : Blk w b arr t) (i : Nat) : w.cell? ⟨b, i, none⟩ = arr[i]? := by
  unfold Blk at h
  simp [World.cell?, h]
theorem Blk.free {w : World} {b : Nat} {arr : Array Value} {t : TypeId} (h : Blk w b arr t) (i : Nat) : w.frozen? ⟨b, i, none⟩ = false := by
  unfold Blk at h
  simp [World.frozen?, h]
theorem Blk.set {w : World} {b : Nat} {arr : Array Value} {t : TypeId} (h : Blk w b arr t) (i : Nat) (v : Value) : Blk (w.setCell ⟨b, i, none⟩ v) b (arr.setIfInBounds i v) t := by
  unfold Blk at *
  simp [World.setCell, Array.getElem?_modify, h]
theorem heap_set_other {w : World} {b b' : Nat} {o : Obj} (h : w.heap[b]? = some o) (hne : b' ≠ b) (i : Nat) (v : Value) : (w.setCell ⟨b', i, none⟩ v).heap[b]? = some o := by
  simp [World.setCell, Array.getElem?_modify, hne, h]
theorem Blk.other {w : World} {b b' : Nat} {arr : Array Value} {t : TypeId} (h : Blk w b arr t) (hne : b' ≠ b) (i : Nat) (v : Value) : Blk (w.setCell ⟨b', i, none⟩ v) b arr t := heap_set_other h hne i v
theorem heap_alloc_old {w : World} {b : Nat} {ob : Obj} (h : w.heap[b]? = some ob) (o : Obj) : (w.alloc o).heap[b]? = some ob := by
  have hl : b < w.heap.size := (Array.getElem?_eq_some_iff.1 h).1
  show (w.heap.push o)[b]? = _
  rw [Array.getElem?_push_lt hl]
  rw [Array.getElem?_eq_getElem hl] at h
  exact h
theorem Blk.alloc {w : World} {b : Nat} {arr : Array Value} {t : TypeId} (h : Blk w b arr t) (o : Obj) : Blk (w.alloc o) b arr t := heap_alloc_old h o
theorem Blk.new (w : World) (arr : Array Value) (t : TypeId) : Blk (w.alloc (.cells arr t)) w.heap.size arr t := by
  unfold Blk
  show (w.heap.push _)[w.heap.size]? = _
  simp
theorem Blk.drewN {w : World} {b : Nat} {arr : Array Value} {t : TypeId} (h : Blk w b arr t) (n : Nat) : Blk (w.drewN n) b arr t := h
theorem Blk.drew {w : World} {b : Nat} {arr : Array Value} {t : TypeId} (h : Blk w b arr t) : Blk w.drew b arr t := h
theorem blk_ne {w : World} {b b' : Nat} {arr arr' : Array Value} {t t' : TypeId} (h : Blk w b arr t) (h' : Blk w b' arr' t') (ht : t ≠ t') : b ≠ b' := by
  rintro rfl
  unfold Blk at h h'
  rw [h] at h'
  simp only [Option.some.injEq, Obj.cells.injEq] at h'
  exact ht h'.2.1

/-- Old blocks lie as they lay, but for blocks whose element type is hot. -/
structure Kp (H : List TypeId) (w w' : World) : Prop where
  size : w.heap.size ≤ w'.heap.size
  block : ∀ b arr t, Blk w b arr t → t ∉ H → Blk w' b arr t

theorem Kp.refl (H : List TypeId) (w : World) : Kp H w w := ⟨Nat.le_refl _, fun _ _ _ h _ => h⟩
theorem Kp.trans {H : List TypeId} {a b c : World} (h : Kp H a b) (k : Kp H b c) : Kp H a c := ⟨Nat.le_trans h.size k.size, fun _ _ _ x y => k.block _ _ _ (h.block _ _ _ x y) y⟩
theorem Kp.wide {H H' : List TypeId} {a b : World} (h : Kp H a b) (hs : ∀ t, t ∈ H → t ∈ H') : Kp H' a b := ⟨h.size, fun _ _ _ x y => h.block _ _ _ x (fun hc => y (hs _ hc))⟩
theorem Kp.of_below {H : List TypeId} {w w' : World} (h : Below w.heap.size w w') : Kp H w w' :=
  ⟨h.size, fun b arr t hb _ => by unfold Blk at *; rw [h.block b (Array.getElem?_eq_some_iff.1 hb).1]; exact hb⟩
theorem Kp.alloc {H : List TypeId} {w w' : World} (h : Kp H w w') (o : Obj) : Kp H w (w'.alloc o) := ⟨by have := h.size; simp; omega, fun _ _ _ x y => (h.block _ _ _ x y).alloc o⟩
theorem Kp.setCell {H : List TypeId} {w w' : World} (h : Kp H w w') {b : Nat} {arr : Array Value} {t : TypeId} (hb : Blk w' b arr t) (ht : t ∈ H) (i : Nat) (v : Value) : Kp H w (w'.setCell ⟨b, i, none⟩ v) :=
  ⟨by have := h.size; simp; omega, fun b' arr' t' x y => (h.block _ _ _ x y).other (blk_ne hb (h.block _ _ _ x y) (fun e => y (e ▸ ht))) _ _⟩
theorem Kp.grown {H : List TypeId} {w w' w2 : World} (h : Kp H w w') {base : Nat} {e : TypeId} {size : Nat} {v : Value} {n : Nat} {xs : List Value} (ho : w'.ownsRow base e size v n xs) (hg : w'.grownBy w2 v.ownBlock) (he : e ∈ H) : Kp H w w2 := by
  refine ⟨Nat.le_trans h.size hg.size, fun b arr t x y => ?_⟩
  have hb := h.block _ _ _ x y
  have hne : some b ≠ v.ownBlock := by
    rcases ho.2 with ⟨rfl, _⟩ | ⟨g, cap, cur, rfl, h1, h2, _⟩
    · simp [Value.ownBlock]
    · simp only [Value.ownBlock, ne_eq, Option.some.injEq]
      exact blk_ne hb h2 (fun e' => y (e' ▸ he))
  unfold Blk at *
  rw [hg.block b (Array.getElem?_eq_some_iff.1 hb).1 hne]
  exact hb

/-- An owned row keeps under what leaves its type alone. -/
theorem own_kp {H : List TypeId} {w w' : World} (h : Kp H w w') {base : Nat} {e : TypeId} {size : Nat} {v : Value} {n : Nat} {xs : List Value} (ho : w.ownsRow base e size v n xs) (he : e ∉ H) : w'.ownsRow base e size v n xs := by
  rcases ho with ⟨h0, ⟨rfl, rfl⟩ | ⟨g, cap, cur, rfl, h1, h2, h3⟩⟩
  · exact ⟨h0, .inl ⟨rfl, rfl⟩⟩
  · exact ⟨h0, .inr ⟨g, cap, cur, rfl, h1, h.block _ _ _ h2 he, h3⟩⟩
/-- The base may be lowered. -/
theorem own_base {w : World} {base base' : Nat} {e : TypeId} {size : Nat} {v : Value} {n : Nat} {xs : List Value} (ho : w.ownsRow base e size v n xs) (hb : base' ≤ base) : w.ownsRow base' e size v n xs := by
  rcases ho with ⟨h0, ⟨rfl, rfl⟩ | ⟨g, cap, cur, rfl, h1, h2, h3⟩⟩
  · exact ⟨h0, .inl ⟨rfl, rfl⟩⟩
  · exact ⟨h0, .inr ⟨g, cap, cur, rfl, by omega, h2, h3⟩⟩
theorem own_shape {w : World} {base : Nat} {e : TypeId} {size : Nat} {v : Value} {n : Nat} {xs : List Value} (h : w.ownsRow base e size v n xs) : ∃ ao cap, v = .slice ao n cap := by
  rcases h with ⟨h0, ⟨rfl, rfl⟩ | ⟨g, cap, cur, rfl, h1, h2, h3⟩⟩
  · exact ⟨none, 0, rfl⟩
  · exact ⟨_, cap, rfl⟩
theorem own_some {w : World} {base : Nat} {e : TypeId} {size : Nat} {v : Value} {n : Nat} {xs : List Value} (h : w.ownsRow base e size v n xs) (hn : 0 < n) : ∃ g cap, v = .slice (some ⟨g, 0, none⟩) n cap := by
  rcases h with ⟨h0, ⟨rfl, rfl⟩ | ⟨g, cap, cur, rfl, h1, h2, h3⟩⟩
  · omega
  · exact ⟨_, cap, rfl⟩
theorem own_ne {w : World} {base : Nat} {e : TypeId} {size : Nat} {v : Value} {n : Nat} {xs : List Value} {B : Nat} {arr : Array Value} {t : TypeId} (h : w.ownsRow base e size v n xs) (hB : Blk w B arr t) (ht : t ≠ e) : v.ownBlock ≠ some B := by
  rcases h.2 with ⟨rfl, _⟩ | ⟨g, cap, cur, rfl, hb, hg, _⟩
  · simp [Value.ownBlock]
  · simp only [Value.ownBlock, ne_eq, Option.some.injEq]
    exact blk_ne hg hB (Ne.symm ht)

/-- append onto a row of the call's own, as one step of a region that draws. -/
theorem step_append_own {P : Program} {ops : Array Oper} {o : Oper} {a : Act} {w : World} {K : Act → World → Prop} {Q : Exit → Act → World → Prop} {E : Prop}
    (hg : o.guard = none) (s x : Operand) (t : TypeId) (hop : o.op = Op.call { callee := Callee.builtin Builtin.append, args := #[s, x], argTypes := #[t, t] })
    (base : Nat) (e : TypeId) (i : TypeInfo) (z : Value) (size bytes : Nat) (ht : P.underlying t = some (.slice e)) (hi : P.info? e = some i) (hz : i.zero = some z)
    (hsize : i.size = size) (hby : i.bytes = bytes) (hzs : z.cells.size = size) (hsz : 0 < size)
    (v : Value) (n : Nat) (xs : List Value) (hs : a.eval s = v) (hown : w.ownsRow base e size v n xs)
    (ad : Addr) (m c : Nat) (news : List Value) (hx : a.eval x = .slice (some ad) m c) (hl : news.length = m * size) (hnews : ∀ j u, news[j]? = some u → w.cell? (ad.add j) = some u) (h1 : ∀ u ∈ news, u.oneCell' = true)
    (h63 : n + m ≤ maxLen) (hbytes : (n + m) * bytes ≤ 140737488355328) (hbase : base ≤ w.heap.size)
    (h : ∀ v' w', w'.ownsRow base e size v' (n + m) (xs ++ news) → w.grownBy w' v.ownBlock → (v' = .slice none 0 0 ↔ v = .slice none 0 0 ∧ m = 0) → (v'.ownBlock = v.ownBlock ∨ v'.ownBlock = some w.heap.size) → K (a.put o.dst v') w') :
    if Region.wanted o (yielded ops a.tmps) = true then Oper.wp P o a w K Q else E := by
  have hw : Region.wanted o (yielded ops a.tmps) = true := by simp [Region.wanted, hg]
  rw [if_pos hw]
  obtain ⟨v', w', hr, h2, h3, h4, h5⟩ := run_append_own_at (P := P) w base t o.type e i z size bytes ht hi hz hsize hby hzs hsz v n xs hown ad m c news hl hnews h1 h63 hbytes hbase
  unfold Oper.wp execOp
  simp only [hop, resolve, invoke, builtin, Sem.run_bind, Sem.run_pure, Result.andThen_ok, List.map_toArray, List.map_cons, List.map_nil, hs, hx, hr]
  exact h v' w' h2 h3 h4 h5

/-- The cells of one new element lie where the temporary row lies. -/
theorem cells_new (w : World) (xs : List Value) (t : TypeId) : ∀ j u, xs[j]? = some u → (w.alloc (.cells xs.toArray t)).cell? ((⟨w.heap.size, 0, none⟩ : Addr).add j) = some u := by
  intro j u hj
  have h := (Blk.new w xs.toArray t).cell j
  rw [Addr.add_lit, Nat.zero_add, h]
  simpa using hj


theorem info_parts {t : TypeId} {z : Value} {s b : Nat} (h : (Ybad.prog.info? t).map (fun i => (i.zero, i.size, i.bytes)) = some (some z, s, b)) : ∃ i, Ybad.prog.info? t = some i ∧ i.zero = some z ∧ i.size = s ∧ i.bytes = b := by
  cases hi : Ybad.prog.info? t with
  | none => rw [hi] at h; simp at h
  | some i =>
    rw [hi] at h
    simp at h
    exact ⟨i, rfl, h.1, h.2.1, h.2.2⟩


theorem info25 : (Ybad.prog.info? 25).map (fun i => (i.zero, i.size, i.bytes)) = some (some (.int .u64 0), 1, 8) := by kernel_rfl
theorem info26 : (Ybad.prog.info? 26).map (fun i => (i.zero, i.size, i.bytes)) = some (some (.agg #[.int .u64 0, .int .u64 0]), 2, 16) := by kernel_rfl
theorem info36 : (Ybad.prog.info? 36).map (fun i => (i.zero, i.size, i.bytes)) = some (some (.slice none 0 0), 1, 24) := by kernel_rfl
theorem info4 : (Ybad.prog.info? 4).map (fun i => (i.zero, i.size, i.bytes)) = some (some (.bool false), 1, 1) := by kernel_rfl
theorem info5 : (Ybad.prog.info? 5).map (fun i => (i.zero, i.size, i.bytes)) = some (some (.int .u8 0), 1, 1) := by kernel_rfl
theorem info54 : (Ybad.prog.info? 54).map (fun i => (i.zero, i.size, i.bytes)) = some (some (.agg #[.int .u32 0, .bool false, .int .i64 0, .int .i64 0]), 4, 24) := by kernel_rfl
theorem info33 : (Ybad.prog.info? 33).map (fun i => (i.zero, i.size, i.bytes)) = some (some (.agg #[.int .u8 0, .int .u32 0, .int .u32 0, .slice none 0 0]), 4, 40) := by kernel_rfl
end Wlk
end Go.Proofs.YbulkcqiDoor
