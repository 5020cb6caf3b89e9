import Derived.Test.YbulkcosFmtMeans
import Derived.Deep.DeepCutAuto
import Derived.Deep.CutBlock
import Derived.Deep.RegionLaw
namespace Go.Proofs.YbulkcosFmt
open Go.RowKit
set_option linter.unusedVariables false
set_option linter.unusedSimpArgs false

theorem run_store_float {P : Program} {w : World} {a : Addr} {m : Mode} (k : FloatKind) (b : Nat) : (store a (.float k b) m).run P w = stored P w a (.float k b) m := run_store P w a _ m rfl
attribute [local go_sem] run_store_float

/-- Block b holds just these cells, of element type t, none frozen. -/
def Blk (w : World) (b : Nat) (arr : Array Value) (t : TypeId) : Prop := w.heap[b]? = some (.cells arr t (0, 0))

theorem Blk.lt {w : World} {b : Nat} {arr : Array Value} {t : TypeId} (h : Blk w b arr t) : b < w.heap.size := (Array.getElem?_eq_some_iff.1 h).1
theorem Blk.cell {w : World} {b : Nat} {arr : Array Value} {t : TypeId} (h : Blk w b arr t) (i : Nat) : w.cell? ⟨b, i, none⟩ = arr[i]? := by
  unfold Blk at h
  simp [World.cell?, h]
theorem Blk.free {w : World} {b : Nat} {arr : Array Value} {t : TypeId} (h : Blk w b arr t) (i : Nat) : w.frozen? ⟨b, i, none⟩ = false := by
  unfold Blk at h
  simp [World.frozen?, h]
theorem Blk.set {w : World} {b : Nat} {arr : Array Value} {t : TypeId} (h : Blk w b arr t) (i : Nat) (v : Value) : Blk (w.setCell ⟨b, i, none⟩ v) b (arr.setIfInBounds i v) t := by
  unfold Blk at *
  simp [World.setCell, Array.getElem?_modify, h]
theorem Blk.other {w : World} {b b' : Nat} {arr : Array Value} {t : TypeId} (h : Blk w b arr t) (hne : b' ≠ b) (i : Nat) (v : Value) : Blk (w.setCell ⟨b', i, none⟩ v) b arr t := by
  unfold Blk at *
  simp [World.setCell, Array.getElem?_modify, hne, h]
theorem Blk.alloc {w : World} {b : Nat} {arr : Array Value} {t : TypeId} (h : Blk w b arr t) (o : Obj) : Blk (w.alloc o) b arr t := by
  have hl := h.lt
  unfold Blk at *
  show (w.heap.push o)[b]? = _
  rw [Array.getElem?_push_lt hl]
  rw [Array.getElem?_eq_getElem hl] at h
  exact h
theorem Blk.new (w : World) (arr : Array Value) (t : TypeId) : Blk (w.alloc (.cells arr t)) w.heap.size arr t := by
  unfold Blk
  show (w.heap.push _)[w.heap.size]? = _
  simp
theorem Blk.drewN {w : World} {b : Nat} {arr : Array Value} {t : TypeId} (h : Blk w b arr t) (n : Nat) : Blk (w.drewN n) b arr t := h
theorem Blk.drew {w : World} {b : Nat} {arr : Array Value} {t : TypeId} (h : Blk w b arr t) : Blk w.drew b arr t := h
theorem Blk.kept {w w' : World} {b : Nat} {arr : Array Value} {t : TypeId} {row : Option Nat} (h : Blk w b arr t) (hg : w.grownBy w' row) (hne : some b ≠ row) : Blk w' b arr t := by
  have hl := h.lt
  unfold Blk at *
  rw [hg.block b hl hne]
  exact h

/-- The Forecaster's fifteen cells. -/
def fBlk (rule q : Int) (rv : Value) (p : Int) (ob av fb fc : Nat) (ps : Bool) (e o : Nat) : Array Value :=
  #[.int .i64 rule, .int .i64 q, .float .f64 4607182418800017408, .float .f64 0, .float .f64 4602678819172646912, .float .f64 4602678819172646912, rv, .int .i64 p, .float .f64 ob, .float .f64 av, .float .f64 fb, .float .f64 fc, .bool ps, .float .f64 e, .float .f64 o]

section
variable {w : World} {B : Nat} {rule q : Int} {rv : Value} {p : Int} {ob av fb fc : Nat} {ps : Bool} {e o : Nat}
theorem Blk.last (h : Blk w B (fBlk rule q rv p ob av fb fc ps e o) 32) : w.cell? ⟨B, 7, none⟩ = some (.int .i64 p) ∧ w.cell? ⟨B, 8, none⟩ = some (.float .f64 ob) ∧ w.cell? ⟨B, 9, none⟩ = some (.float .f64 av) ∧ w.cell? ⟨B, 10, none⟩ = some (.float .f64 fb) ∧ w.cell? ⟨B, 11, none⟩ = some (.float .f64 fc) ∧ w.cell? ⟨B, 12, none⟩ = some (.bool ps) :=
  ⟨h.cell 7, h.cell 8, h.cell 9, h.cell 10, h.cell 11, h.cell 12⟩
theorem Blk.set2 (h : Blk w B (fBlk rule q rv p ob av fb fc ps e o) 32) : w.cell? ⟨B, 0, none⟩ = some (.int .i64 rule) ∧ w.cell? ⟨B, 1, none⟩ = some (.int .i64 q) ∧ w.cell? ⟨B, 2, none⟩ = some (.float .f64 4607182418800017408) ∧ w.cell? ⟨B, 3, none⟩ = some (.float .f64 0) ∧ w.cell? ⟨B, 4, none⟩ = some (.float .f64 4602678819172646912) ∧ w.cell? ⟨B, 5, none⟩ = some (.float .f64 4602678819172646912) ∧ w.cell? ⟨B, 6, none⟩ = some rv ∧ w.cell? ⟨B, 13, none⟩ = some (.float .f64 e) ∧ w.cell? ⟨B, 14, none⟩ = some (.float .f64 o) :=
  ⟨h.cell 0, h.cell 1, h.cell 2, h.cell 3, h.cell 4, h.cell 5, h.cell 6, h.cell 13, h.cell 14⟩
end

/-- A Step's six cells. -/
def sBlk (p : Int) (ob av fb fc : Nat) (ps : Bool) : Array Value := #[.int .i64 p, .float .f64 ob, .float .f64 av, .float .f64 fb, .float .f64 fc, .bool ps]

theorem Blk.six {w : World} {B : Nat} {p : Int} {ob av fb fc : Nat} {ps : Bool} (h : Blk w B (sBlk p ob av fb fc ps) 30) : w.cell? ⟨B, 0, none⟩ = some (.int .i64 p) ∧ w.cell? ⟨B, 1, none⟩ = some (.float .f64 ob) ∧ w.cell? ⟨B, 2, none⟩ = some (.float .f64 av) ∧ w.cell? ⟨B, 3, none⟩ = some (.float .f64 fb) ∧ w.cell? ⟨B, 4, none⟩ = some (.float .f64 fc) ∧ w.cell? ⟨B, 5, none⟩ = some (.bool ps) :=
  ⟨h.cell 0, h.cell 1, h.cell 2, h.cell 3, h.cell 4, h.cell 5⟩

/-- What becomes of the two sums. -/
def Sums (p : Int) (fc rate e o e' o' : Nat) : Prop :=
  (0 < p → (∃ s, OpRel .sub fc rate s ∧ OpRel .add e (absB s) e') ∧ OpRel .add o rate o') ∧ (¬ 0 < p → e' = e ∧ o' = o)

/-- Behind the two sums. -/
def R1 (base B n : Nat) (rule q : Int) (rv : Value) (p : Int) (ob av fb fc : Nat) (ps : Bool) (e o : Nat) (xs : List Nat) (rate : Nat) (w wc : World) : Prop :=
  ∃ e' o', Sums p fc rate e o e' o' ∧ Blk wc B (fBlk rule q rv p ob av fb fc ps e' o') 32 ∧ Blk wc w.heap.size (sBlk 0 0 0 0 0 false) 30 ∧ Blk wc (w.heap.size + 1) (sBlk p ob av fb fc ps) 30 ∧
    wc.ownsRow base 25 1 rv n (xs.map (Value.float .f64)) ∧ Below base w wc ∧ wc.heap.size = w.heap.size + 2

theorem own_ne {w : World} {base : Nat} {v : Value} {n : Nat} {xs : List Value} {B : Nat} {arr : Array Value} {t : TypeId} (h : w.ownsRow base 25 1 v n xs) (hB : Blk w B arr t) (ht : t ≠ 25) : v.ownBlock ≠ some B := by
  rcases h.2 with ⟨rfl, _⟩ | ⟨g, cap, cur, rfl, hb, hg, _⟩
  · simp [Value.ownBlock]
  · simp only [Value.ownBlock, ne_eq, Option.some.injEq]
    rintro rfl
    unfold Blk at hB
    rw [hg] at hB
    simp only [Option.some.injEq, Obj.cells.injEq] at hB
    exact ht hB.2.1.symm

section
variable {base B n : Nat} {rule q : Int} {rv : Value} {p : Int} {ob av fb fc : Nat} {ps : Bool} {e o : Nat} {xs : List Nat} {rate : Nat} {w : World}

/-- The world behind the first three statements. -/
def W2 (w : World) (p : Int) (ob av fb fc : Nat) (ps : Bool) : World := (w.alloc (.cells (sBlk 0 0 0 0 0 false) 30)).alloc (.cells (sBlk p ob av fb fc ps) 30)

theorem r1_start (hB : Blk w B (fBlk rule q rv p ob av fb fc ps e o) 32) (hown : w.ownsRow base 25 1 rv n (xs.map (Value.float .f64))) (hb : base ≤ B) (hp : ¬ 0 < p) :
    R1 base B n rule q rv p ob av fb fc ps e o xs rate w (W2 w p ob av fb fc ps) := by
  have hlt := hB.lt
  refine ⟨e, o, ⟨fun h => absurd h hp, fun _ => ⟨rfl, rfl⟩⟩, (hB.alloc _).alloc _, (Blk.new _ _ _).alloc _, ?_, (hown.alloc _).alloc _, ((Below.refl _ _).alloc (by omega) _).alloc (by simp; omega) _, ?_⟩
  · have := Blk.new (w.alloc (.cells (sBlk 0 0 0 0 0 false) 30)) (sBlk p ob av fb fc ps) 30
    rw [World.size_alloc] at this
    exact this
  · simp [W2]

theorem r1_sums {e' o' s k m : Nat} (hB : Blk w B (fBlk rule q rv p ob av fb fc ps e o) 32) (hown : w.ownsRow base 25 1 rv n (xs.map (Value.float .f64))) (hb : base ≤ B) (hp : 0 < p)
    (h1 : OpRel .sub fc rate s) (h2 : OpRel .add e (absB s) e') (h3 : OpRel .add o rate o') :
    R1 base B n rule q rv p ob av fb fc ps e o xs rate w (((((W2 w p ob av fb fc ps).drewN k).setCell ⟨B, 13, none⟩ (.float .f64 e')).drewN m).setCell ⟨B, 14, none⟩ (.float .f64 o')) := by
  have hlt := hB.lt
  have hB2 : Blk (W2 w p ob av fb fc ps) B _ 32 := (hB.alloc _).alloc _
  have hown2 : (W2 w p ob av fb fc ps).ownsRow base 25 1 rv n (xs.map (Value.float .f64)) := (hown.alloc _).alloc _
  have hne := own_ne hown2 hB2 (by decide)
  refine ⟨e', o', ⟨fun _ => ⟨⟨s, h1, h2⟩, h3⟩, fun h => absurd hp h⟩, (((hB2.drewN _).set 13 _).drewN _).set 14 _, (((((Blk.new _ _ _).alloc _).drewN _).other (by omega) _ _).drewN _).other (by omega) _ _, ?_, ?_, ?_, ?_⟩
  · have := Blk.new (w.alloc (.cells (sBlk 0 0 0 0 0 false) 30)) (sBlk p ob av fb fc ps) 30
    have h' : Blk (W2 w p ob av fb fc ps) (w.heap.size + 1) (sBlk p ob av fb fc ps) 30 := by rw [World.size_alloc] at this; exact this
    exact (((h'.drewN _).other (by omega) _ _).drewN _).other (by omega) _ _
  · exact ownsRow_setCell_other (w := (((W2 w p ob av fb fc ps).drewN k).setCell ⟨B, 13, none⟩ (.float .f64 e')).drewN m) (ownsRow_setCell_other (w := (W2 w p ob av fb fc ps).drewN k) hown2 hne _) hne _
  · exact (below_drewN ((below_drewN (((Below.refl _ _).alloc (by omega) _).alloc (by simp; omega) _) _).setCell hb _) _).setCell hb _
  · simp [W2]
end


/-- Behind the shift of the queue. -/
def R2 (base B : Nat) (rule q : Int) (p : Int) (ob av fb fc : Nat) (ps : Bool) (e o : Nat) (rate : Nat) (w wc : World) : Prop :=
  ∃ (e' o' : Nat) (ao : Option Addr) (n cap : Nat) (xs : List Nat), Sums p fc rate e o e' o' ∧ Blk wc B (fBlk rule q (.slice ao n cap) p ob av fb fc ps e' o') 32 ∧ Blk wc w.heap.size (sBlk 0 0 0 0 0 false) 30 ∧ Blk wc (w.heap.size + 1) (sBlk p ob av fb fc ps) 30 ∧
    wc.ownsRow base 25 1 (.slice ao n cap) n (xs.map (Value.float .f64)) ∧ (n : Int) < q ∧ Below base w wc ∧ wc.heap.size = w.heap.size + 2

theorem own_shape {w : World} {base : Nat} {v : Value} {n : Nat} {xs : List Value} (h : w.ownsRow base 25 1 v n xs) : ∃ ao cap, v = .slice ao n cap ∧ ((ao = none ∧ n = 0 ∧ cap = 0) ∨ ∃ g cur, ao = some ⟨g, 0, none⟩ ∧ base ≤ g ∧ w.heap[g]? = some (.cells cur 25 (0, 0)) ∧ n ≤ cap ∧ cap ≤ maxLen ∧ cur.size = cap ∧ cur.toList.take n = xs) := by
  rcases h with ⟨h0, ⟨rfl, rfl⟩ | ⟨g, cap, cur, rfl, h1, h2, h3, h4, h5, h6⟩⟩
  · exact ⟨none, 0, rfl, .inl ⟨rfl, rfl, rfl⟩⟩
  · exact ⟨_, cap, rfl, .inr ⟨g, cur, rfl, h1, h2, h3, h4, by simpa using h5, by simpa using h6⟩⟩

/-- The first n cells of the row are floats. -/
def FArr (cur : Array Value) (n : Nat) : Prop := ∀ i, i < n → ∃ x, cur[i]? = some (.float .f64 x)

theorem FArr.set {cur : Array Value} {n : Nat} (h : FArr cur n) (o x : Nat) : FArr (cur.setIfInBounds o (.float .f64 x)) n := by
  intro i hi
  obtain ⟨y, hy⟩ := h i hi
  rw [Array.getElem?_setIfInBounds]
  by_cases he : o = i
  · subst he
    have hl : o < cur.size := (Array.getElem?_eq_some_iff.1 hy).1
    rw [if_pos rfl, if_pos hl]
    exact ⟨x, rfl⟩
  · rw [if_neg he]; exact ⟨y, hy⟩

theorem Blk.setCells {t : TypeId} {n g : Nat} : ∀ (xs : List Nat) (o : Nat) (w : World) (cur : Array Value), Blk w g cur t → FArr cur n →
    ∃ cur', Blk (w.setCells g o (xs.map (Value.float .f64))) g cur' t ∧ cur'.size = cur.size ∧ FArr cur' n
  | [], o, w, cur, h, hf => ⟨cur, h, rfl, hf⟩
  | x :: xs, o, w, cur, h, hf => by
    obtain ⟨cur', h1, h2, h3⟩ := Blk.setCells xs (o + 1) _ _ (h.set o (.float .f64 x)) (hf.set o x)
    exact ⟨cur', h1, by rw [h2]; simp, h3⟩

theorem Blk.setCells_other {arr : Array Value} {t : TypeId} {b g : Nat} (hne : g ≠ b) : ∀ (vs : List Value) (o : Nat) (w : World), Blk w b arr t → Blk (w.setCells g o vs) b arr t
  | [], o, w, h => h
  | v :: vs, o, w, h => Blk.setCells_other hne vs (o + 1) _ (h.other hne o v)

theorem size_setCells (g : Nat) : ∀ (vs : List Value) (o : Nat) (w : World), (w.setCells g o vs).heap.size = w.heap.size
  | [], o, w => rfl
  | v :: vs, o, w => by rw [World.setCells, size_setCells g vs]; simp

theorem below_setCells {B g : Nat} {a : World} (hb : B ≤ g) : ∀ (vs : List Value) (o : Nat) (w : World), Below B a w → Below B a (w.setCells g o vs)
  | [], o, w, h => h
  | v :: vs, o, w, h => below_setCells hb vs (o + 1) _ (h.setCell hb v)

theorem own_of {w : World} {base g n cap : Nat} {cur : Array Value} (h : Blk w g cur 25) (hb : base ≤ g) (hn : n ≤ cap) (hc : cap ≤ maxLen) (hs : cur.size = cap) (hf : FArr cur n) :
    ∃ xs : List Nat, w.ownsRow base 25 1 (.slice (some ⟨g, 0, none⟩) n cap) n (xs.map (Value.float .f64)) := by
  have h' : ∀ i, ∃ x, i < n → cur[i]? = some (.float .f64 x) := by
    intro i
    by_cases hi : i < n
    · obtain ⟨x, hx⟩ := hf i hi
      exact ⟨x, fun _ => hx⟩
    · exact ⟨0, fun hc => absurd hc hi⟩
  have hval := fun i => (h' i).choose_spec
  generalize hfn : (fun i => (h' i).choose) = f at *
  have hval' : ∀ i, i < n → cur[i]? = some (.float .f64 (f i)) := fun i hi => by rw [← hfn]; exact hval i hi
  refine ⟨(List.range n).map f, by simp, .inr ⟨g, cap, cur, rfl, hb, h, hn, hc, by simpa using hs, ?_⟩⟩
  rw [Nat.mul_one]
  apply List.ext_getElem?
  intro i
  by_cases hi : i < n
  · rw [List.getElem?_take_of_lt hi]
    have := hval' i hi
    simp only [Array.getElem?_toList]
    rw [this]
    simp [hi]
  · rw [List.getElem?_eq_none (by simp; omega), List.getElem?_eq_none (by simp; omega)]

theorem farr_of {cur : Array Value} {n : Nat} {xs : List Nat} (h : cur.toList.take n = xs.map (Value.float .f64)) (hn : n ≤ cur.size) : FArr cur n := by
  intro i hi
  have h1 : (cur.toList.take n)[i]? = cur[i]? := by rw [List.getElem?_take_of_lt hi]; simp
  rw [h] at h1
  have hl : i < xs.length := by
    have := congrArg List.length h
    simp at this
    omega
  rw [List.getElem?_map, List.getElem?_eq_getElem hl] at h1
  exact ⟨_, h1.symm⟩

section
variable {base B n g cap k : Nat} {rule : Int} {p : Int} {ob av fb fc : Nat} {ps : Bool} {e o : Nat} {xs : List Nat} {rate : Nat} {w wc : World}
/-- The queue was full and has been shifted. -/
theorem r2_shift {e' o' : Nat} {q : Int} {cur : Array Value} (hq : (n : Int) = q) (hn1 : 1 ≤ n) (hS : Sums p fc rate e o e' o') (hB : Blk wc B (fBlk rule q (.slice (some ⟨g, 0, none⟩) n cap) p ob av fb fc ps e' o') 32) (hR : Blk wc w.heap.size (sBlk 0 0 0 0 0 false) 30) (hP : Blk wc (w.heap.size + 1) (sBlk p ob av fb fc ps) 30)
    (hg : Blk wc g cur 25) (hbg : base ≤ g) (hncap : n ≤ cap) (hcm : cap ≤ maxLen) (hcs : cur.size = cap) (hx : cur.toList.take n = xs.map (Value.float .f64)) (hb : base ≤ B) (hL : Below base w wc) (hsz : wc.heap.size = w.heap.size + 2) (ys : List Nat) :
    R2 base B rule q p ob av fb fc ps e o rate w (((wc.drewN k).setCells g 0 (ys.map (Value.float .f64))).setCell ⟨B, 6, none⟩ (.slice (some ⟨g, 0, none⟩) (n - 1) cap)) := by
  have hf := farr_of hx (by omega)
  have hne : ∀ {b : Nat} {arr : Array Value} {t : TypeId}, Blk wc b arr t → t ≠ 25 → g ≠ b := by
    intro b arr t h ht hgb
    subst hgb
    unfold Blk at h hg
    rw [hg] at h
    simp only [Option.some.injEq, Obj.cells.injEq] at h
    exact ht h.2.1.symm
  have neB := hne hB (by decide)
  have neR := hne hR (by decide)
  have neP := hne hP (by decide)
  have nBR : B ≠ w.heap.size := by
    intro h
    have h1 := hB; have h2 := hR
    rw [← h] at h2
    unfold Blk at h1 h2
    rw [h1] at h2
    simp at h2
  have nBP : B ≠ w.heap.size + 1 := by
    intro h
    have h1 := hB; have h2 := hP
    rw [← h] at h2
    unfold Blk at h1 h2
    rw [h1] at h2
    simp at h2
  obtain ⟨cur', h1, h2, h3⟩ := Blk.setCells (n := n) ys 0 (wc.drewN k) cur (hg.drewN _) hf
  have h1' := h1.other (b' := B) (Ne.symm neB) 6 (.slice (some ⟨g, 0, none⟩) (n - 1) cap)
  obtain ⟨zs, hz⟩ := own_of (base := base) (n := n - 1) (cap := cap) h1' hbg (by omega) hcm (by omega) (fun i hi => h3 i (by omega))
  refine ⟨e', o', _, n - 1, cap, zs, hS, ?_, ?_, ?_, hz, by omega, ?_, ?_⟩
  · exact (Blk.setCells_other neB _ 0 _ (hB.drewN _)).set 6 _
  · exact (Blk.setCells_other neR _ 0 _ (hR.drewN _)).other nBR _ _
  · exact (Blk.setCells_other neP _ 0 _ (hP.drewN _)).other nBP _ _
  · exact (below_setCells hbg _ 0 _ (below_drewN hL _)).setCell hb _
  · rw [World.size_setCell, size_setCells]; exact hsz
end

/-- Behind the append. -/
def R3 (base B : Nat) (rule q : Int) (p : Int) (ob av fb fc : Nat) (ps : Bool) (e o : Nat) (rate : Nat) (w wc : World) : Prop :=
  ∃ (e' o' g n cap : Nat) (xs : List Nat), Sums p fc rate e o e' o' ∧ Blk wc B (fBlk rule q (.slice (some ⟨g, 0, none⟩) n cap) p ob av fb fc ps e' o') 32 ∧ Blk wc w.heap.size (sBlk 0 0 0 0 0 false) 30 ∧ Blk wc (w.heap.size + 1) (sBlk p ob av fb fc ps) 30 ∧
    wc.ownsRow base 25 1 (.slice (some ⟨g, 0, none⟩) n cap) n (xs.map (Value.float .f64)) ∧ 1 ≤ n ∧ (n : Int) ≤ q ∧ Below base w wc ∧ w.heap.size + 2 ≤ wc.heap.size

section
variable {base B n cap k : Nat} {rule q : Int} {p : Int} {ob av fb fc : Nat} {ps : Bool} {e o : Nat} {xs : List Nat} {rate : Nat} {w wc w1 : World} {ao : Option Addr} {e' o' : Nat}
theorem blk_ne {w : World} {b b' : Nat} {arr arr' : Array Value} {t t' : TypeId} (h : Blk w b arr t) (h' : Blk w b' arr' t') (ht : t ≠ t') : b ≠ b' := by
  rintro rfl
  unfold Blk at h h'
  rw [h] at h'
  simp only [Option.some.injEq, Obj.cells.injEq] at h'
  exact ht h'.2.1

/-- What the append leaves, put into f.rates. -/
theorem r3_append (hS : Sums p fc rate e o e' o') (hB : Blk wc B (fBlk rule q (.slice ao n cap) p ob av fb fc ps e' o') 32) (hR : Blk wc w.heap.size (sBlk 0 0 0 0 0 false) 30) (hP : Blk wc (w.heap.size + 1) (sBlk p ob av fb fc ps) 30)
    (hown : wc.ownsRow base 25 1 (.slice ao n cap) n (xs.map (Value.float .f64))) (hnq : (n : Int) < q) (hb : base ≤ B) (hL : Below base w wc) (hsz : wc.heap.size = w.heap.size + 2) (o1 : Obj)
    (hg : (wc.alloc o1).grownBy w1 (Value.ownBlock (.slice ao n cap))) (hbs : base ≤ wc.heap.size) {g' cap' : Nat} (hown' : w1.ownsRow base 25 1 (.slice (some ⟨g', 0, none⟩) (n + 1) cap') (n + 1) (xs.map (Value.float .f64) ++ [.float .f64 rate])) :
    R3 base B rule q p ob av fb fc ps e o rate w (w1.setCell ⟨B, 6, none⟩ (.slice (some ⟨g', 0, none⟩) (n + 1) cap')) := by
  have nB := own_ne hown hB (by decide)
  have nR := own_ne hown hR (by decide)
  have nP := own_ne hown hP (by decide)
  have nBR := blk_ne hB hR (by decide)
  have nBP := blk_ne hB hP (by decide)
  have kB := (hB.alloc o1).kept hg (Ne.symm nB)
  have kR := (hR.alloc o1).kept hg (Ne.symm nR)
  have kP := (hP.alloc o1).kept hg (Ne.symm nP)
  have nB' := own_ne hown' kB (by decide)
  have hL1 : Below base w w1 := (hL.alloc hbs o1).grown hg (by simp; omega) (fun k hk => (hown.lt k hk).1)
  refine ⟨e', o', g', n + 1, cap', xs ++ [rate], hS, kB.set 6 _, kR.other nBR _ _, kP.other nBP _ _, ?_, by omega, by omega, hL1.setCell hb _, ?_⟩
  · have := ownsRow_setCell_other (a := ⟨B, 6, none⟩) hown' nB' (.slice (some ⟨g', 0, none⟩) (n + 1) cap')
    simpa using this
  · have := hg.size
    simp at this ⊢
    omega
end

theorem frow_of_own {w : World} {base g n cap : Nat} {xs : List Nat} (h : w.ownsRow base 25 1 (.slice (some ⟨g, 0, none⟩) n cap) n (xs.map (Value.float .f64))) : FRow w g n := by
  intro i hi
  have hl : xs.length = n := by have := h.1; simpa using this
  have hu : (xs.map (Value.float .f64))[i]? = some (.float .f64 (xs[i]'(by omega))) := by
    rw [List.getElem?_map, List.getElem?_eq_getElem (by omega)]
    rfl
  have := h.cells (g := g) rfl i _ hu
  rw [Addr.add_lit, Nat.zero_add] at this
  exact ⟨_, this⟩

/-- While the step is filled: its block S holds arr. -/
def P4 (base B S N : Nat) (rule q : Int) (g n cap : Nat) (p : Int) (ob av fb fc : Nat) (ps : Bool) (e o : Nat) (xs : List Nat) (w : World) (arr : Array Value) (wd : World) : Prop :=
  Blk wd S arr 30 ∧ Blk wd B (fBlk rule q (.slice (some ⟨g, 0, none⟩) n cap) p ob av fb fc ps e o) 32 ∧ Blk wd N (sBlk 0 0 0 0 0 false) 30 ∧ Blk wd (N + 1) (sBlk p ob av fb fc ps) 30 ∧
    wd.ownsRow base 25 1 (.slice (some ⟨g, 0, none⟩) n cap) n (xs.map (Value.float .f64)) ∧ Below base w wd ∧ N + 1 < S ∧ base ≤ S

section
variable {base B S N : Nat} {rule q : Int} {g n cap : Nat} {p : Int} {ob av fb fc : Nat} {ps : Bool} {e o : Nat} {xs : List Nat} {w : World} {arr : Array Value} {wd wc : World}
theorem P4.drewN (h : P4 base B S N rule q g n cap p ob av fb fc ps e o xs w arr wd) (k : Nat) : P4 base B S N rule q g n cap p ob av fb fc ps e o xs w arr (wd.drewN k) :=
  ⟨h.1, h.2.1, h.2.2.1, h.2.2.2.1, h.2.2.2.2.1, below_drewN h.2.2.2.2.2.1 _, h.2.2.2.2.2.2⟩
theorem P4.set (h : P4 base B S N rule q g n cap p ob av fb fc ps e o xs w arr wd) (i : Nat) (v : Value) : P4 base B S N rule q g n cap p ob av fb fc ps e o xs w (arr.setIfInBounds i v) (wd.setCell ⟨S, i, none⟩ v) := by
  obtain ⟨h1, h2, h3, h4, h5, h6, h7, h8⟩ := h
  have nS := own_ne h5 h1 (by decide)
  exact ⟨h1.set i v, h2.other (blk_ne h1 h2 (by decide)) i v, h3.other (by omega) i v, h4.other (by omega) i v, ownsRow_setCell_other h5 nS v, h6.setCell h8 v, h7, h8⟩
theorem P4.alloc (h : P4 base B S N rule q g n cap p ob av fb fc ps e o xs w arr wd) (ob1 : Obj) : P4 base B S N rule q g n cap p ob av fb fc ps e o xs w arr (wd.alloc ob1) := by
  obtain ⟨h1, h2, h3, h4, h5, h6, h7, h8⟩ := h
  exact ⟨h1.alloc _, h2.alloc _, h3.alloc _, h4.alloc _, h5.alloc _, h6.alloc (by have := h1.lt; omega) _, h7, h8⟩
theorem P4.start (h2 : Blk wc B (fBlk rule q (.slice (some ⟨g, 0, none⟩) n cap) p ob av fb fc ps e o) 32) (h3 : Blk wc N (sBlk 0 0 0 0 0 false) 30) (h4 : Blk wc (N + 1) (sBlk p ob av fb fc ps) 30)
    (h5 : wc.ownsRow base 25 1 (.slice (some ⟨g, 0, none⟩) n cap) n (xs.map (Value.float .f64))) (h6 : Below base w wc) (hb : base ≤ wc.heap.size) (arr : Array Value) :
    P4 base B wc.heap.size N rule q g n cap p ob av fb fc ps e o xs w arr (wc.alloc (.cells arr 30)) :=
  ⟨Blk.new _ _ _, h2.alloc _, h3.alloc _, h4.alloc _, h5.alloc _, h6.alloc hb _, h4.lt, hb⟩
end

/-- Behind the switch. -/
def R4 (base B S N : Nat) (rule q : Int) (g n cap : Nat) (p : Int) (ob av fb fc : Nat) (ps : Bool) (e o : Nat) (xs : List Nat) (rate : Nat) (w wd : World) : Prop :=
  ∃ av' fb' fc', P4 base B S N rule q g n cap p ob av fb fc ps e o xs w (sBlk (p + 1) rate av' fb' fc' false) wd

/-- Behind the choice of the control. -/
def R5 (base B S N : Nat) (rule q : Int) (g n cap : Nat) (p : Int) (ob av fb fc : Nat) (ps : Bool) (e o : Nat) (xs : List Nat) (rate : Nat) (w wd : World) : Prop :=
  ∃ av' fb' fc' ps', P4 base B S N rule q g n cap p ob av fb fc ps e o xs w (sBlk (p + 1) rate av' fb' fc' ps') wd

/-- What is left of a sequence behind its first n statements. -/
def seqTail : Nat → Code → Code
  | 0, c => c
  | n + 1, .seq _ b => seqTail n b
  | _ + 1, c => c

theorem Ybaf.info25 : (Ybaf.prog.info? 25).map (fun i => (i.zero, i.size, i.bytes)) = some (some (.float .f64 0), 1, 8) := by kernel_rfl

/-- What Observe leaves. -/
def Obs (base B : Nat) (rule q : Int) (p : Int) (fc e o rate : Nat) (w : World) (x : Ending) (w' : World) : Prop :=
  ∃ (g n cap : Nat) (xs : List Nat) (av' fb' fc' : Nat) (ps' : Bool) (e' o' : Nat),
    x = .returned (.agg (sBlk (p + 1) rate av' fb' fc' ps')) ∧ Sums p fc rate e o e' o' ∧ Blk w' B (fBlk rule q (.slice (some ⟨g, 0, none⟩) n cap) (p + 1) rate av' fb' fc' ps' e' o') 32 ∧
    w'.ownsRow base 25 1 (.slice (some ⟨g, 0, none⟩) n cap) n (xs.map (Value.float .f64)) ∧ (n : Int) ≤ q ∧ Below base w w'

section
variable {base B S : Nat} {rule q : Int} {g n cap : Nat} {p : Int} {ob av fb fc : Nat} {ps : Bool} {e o e' o' : Nat} {xs : List Nat} {w : World} {wd : World} {rate av' fb' fc' : Nat} {ps' : Bool}
theorem obs_end (hb : base ≤ B) (hbw : base ≤ w.heap.size) (hS : Sums p fc rate e o e' o') (hn : (n : Int) ≤ q) (h : P4 base B S w.heap.size rule q g n cap p ob av fb fc ps e' o' xs w (sBlk (p + 1) rate av' fb' fc' ps') wd) :
    Obs base B rule q p fc e o rate w (.returned (.agg #[.int .i64 (p + 1), .float .f64 rate, .float .f64 av', .float .f64 fb', .float .f64 fc', .bool ps']))
      ((((((((((((wd.setCell ⟨B, 7, none⟩ (.int .i64 (p + 1))).setCell ⟨B, 8, none⟩ (.float .f64 rate)).setCell ⟨B, 9, none⟩ (.float .f64 av')).setCell ⟨B, 10, none⟩ (.float .f64 fb')).setCell ⟨B, 11, none⟩ (.float .f64 fc')).setCell ⟨B, 12, none⟩ (.bool ps')).setCell
        ⟨w.heap.size, 0, none⟩ (.int .i64 (p + 1))).setCell ⟨w.heap.size, 1, none⟩ (.float .f64 rate)).setCell ⟨w.heap.size, 2, none⟩ (.float .f64 av')).setCell ⟨w.heap.size, 3, none⟩ (.float .f64 fb')).setCell ⟨w.heap.size, 4, none⟩ (.float .f64 fc')).setCell ⟨w.heap.size, 5, none⟩ (.bool ps')) := by
  obtain ⟨h1, h2, h3, h4, h5, h6, h7, h8⟩ := h
  have nB := own_ne h5 h2 (by decide)
  have nR := own_ne h5 h3 (by decide)
  have ne := blk_ne h3 h2 (by decide)
  refine ⟨g, n, cap, xs, av', fb', fc', ps', e', o', rfl, hS, ?_, ?_, hn, ?_⟩
  · exact ((((((((((((h2.set 7 _).set 8 _).set 9 _).set 10 _).set 11 _).set 12 _).other ne _ _).other ne _ _).other ne _ _).other ne _ _).other ne _ _).other ne _ _)
  · have k := fun (w1 : World) (i : Nat) (v : Value) (hh : w1.ownsRow base 25 1 (.slice (some ⟨g, 0, none⟩) n cap) n (xs.map (Value.float .f64))) => ownsRow_setCell_other (a := ⟨B, i, none⟩) hh nB v
    have k2 := fun (w1 : World) (i : Nat) (v : Value) (hh : w1.ownsRow base 25 1 (.slice (some ⟨g, 0, none⟩) n cap) n (xs.map (Value.float .f64))) => ownsRow_setCell_other (a := ⟨w.heap.size, i, none⟩) hh nR v
    exact k2 _ 5 _ (k2 _ 4 _ (k2 _ 3 _ (k2 _ 2 _ (k2 _ 1 _ (k2 _ 0 _ (k _ 12 _ (k _ 11 _ (k _ 10 _ (k _ 9 _ (k _ 8 _ (k _ 7 _ h5)))))))))))
  · exact (((((((((((h6.setCell hb _).setCell hb _).setCell hb _).setCell hb _).setCell hb _).setCell hb _).setCell hbw _).setCell hbw _).setCell hbw _).setCell hbw _).setCell hbw _).setCell hbw _
end

end Go.Proofs.YbulkcosFmt
