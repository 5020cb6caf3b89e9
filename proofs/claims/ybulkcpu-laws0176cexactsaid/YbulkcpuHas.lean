import Derived.Test.YbulkcpuRange8
namespace Go.Proofs.Ybulkcpu
open Go.RowKit Go.Shelf
set_option linter.unusedVariables false
set_option linter.unusedSimpArgs false
attribute [local go_sem] Oper.semAt_some

namespace Exa
/-- While hasOtherAttrs runs: old memory lies as it lay; the result's cell. -/
structure HW (w : World) (x : Bool) (wr : World) : Prop where
  below : Below w.heap.size w wr
  res : Blk wr w.heap.size #[.bool x] 4

theorem HW.blk {w wr : World} {x : Bool} (h : HW w x wr) {b : Nat} {arr : Array Value} {t : TypeId} (hb : Blk w b arr t) : Blk wr b arr t := (h.below.block b hb.lt).trans hb
theorem HW.own {w wr : World} {x : Bool} (h : HW w x wr) {base : Nat} {e : TypeId} {size : Nat} {v : Value} {n : Nat} {xs : List Value} (ho : w.ownsRow base e size v n xs) : wr.ownsRow base e size v n xs := by
  rcases ho with ⟨h0, ⟨rfl, rfl⟩ | ⟨g, cap, cur, rfl, h1, h2, h3⟩⟩
  · exact ⟨h0, .inl ⟨rfl, rfl⟩⟩
  · exact ⟨h0, .inr ⟨g, cap, cur, rfl, h1, h.blk h2, h3⟩⟩
theorem HW.alloc {w wr : World} {x : Bool} (h : HW w x wr) (o : Obj) : HW w x (wr.alloc o) := ⟨h.below.alloc (by have := h.res.lt; omega) o, h.res.alloc o⟩

theorem HW.set {w wr : World} {x : Bool} (h : HW w x wr) (y : Bool) : HW w y (wr.setCell ⟨w.heap.size, 0, none⟩ (.bool y)) := ⟨h.below.setCell (Nat.le_refl _) _, h.res.set 0 _⟩

/-- What hasOtherAttrs leaves. -/
def HPost (w : World) (S : Prop) (e : Ending) (w' : World) : Prop := ∃ b : Bool, e = .returned (.bool b) ∧ (b = true ↔ S) ∧ Below w.heap.size w w'

/-- Between two rounds over the nodes. -/
def N1 (w : World) (kss : List (List ByteArray)) (i : Value) (wr : World) : Prop := ∃ k : Nat, k ≤ kss.length ∧ i = .int .i64 k ∧ HW w false wr ∧ ∀ ks ∈ kss.take k, ∀ key ∈ ks, isLab key = true
/-- Between two rounds over a node's attributes. -/
def N2 (w : World) (ks : List ByteArray) (i : Value) (wr : World) : Prop := ∃ k : Nat, k ≤ ks.length ∧ i = .int .i64 k ∧ HW w false wr ∧ ∀ key ∈ ks.take k, isLab key = true
/-- Between two rounds over edges or paths. -/
def E1 (w : World) (es : List Nat) (i : Value) (wr : World) : Prop := ∃ k : Nat, k ≤ es.length ∧ i = .int .i64 k ∧ HW w false wr ∧ ∀ n ∈ es.take k, n = 0

theorem list_get {α : Type} {Q : World → Nat → α → Prop} {rt : TypeId} {base : Nat} {w : World} {g n cap : Nat} {xs : List α} (h : ListAt Q rt base w (.slice (some ⟨g, 0, none⟩) n cap) xs) {k : Nat} (hk : k < xs.length) :
    ∃ p x, w.cell? ⟨g, k, none⟩ = some (.pointer (some ⟨p, 0, none⟩)) ∧ xs[k]? = some x ∧ Q w p x := by
  obtain ⟨ps, h1, h2, h3⟩ := h
  obtain ⟨p, hp⟩ : ∃ p, ps[k]? = some p := ⟨ps[k]'(by omega), List.getElem?_eq_getElem (by omega)⟩
  have h4 : n = xs.length := by
    rcases h2.2 with ⟨h, _⟩ | ⟨g', c, cur, h, _⟩
    · simp at h
    · simp at h; exact h.2.1
  subst h4
  have c := h2.cells (g := g) rfl k (ptrV p) (by rw [List.getElem?_map, hp]; rfl)
  rw [Addr.add_lit, Nat.zero_add] at c
  exact ⟨p, xs[k], c, List.getElem?_eq_getElem hk, h3 k p _ hp (List.getElem?_eq_getElem hk)⟩
theorem list_shape {α : Type} {Q : World → Nat → α → Prop} {rt : TypeId} {base : Nat} {w : World} {v : Value} {xs : List α} (h : ListAt Q rt base w v xs) : ∃ ao cap, v = .slice ao xs.length cap ∧ (0 < xs.length → ∃ g, ao = some ⟨g, 0, none⟩) := by
  obtain ⟨ps, h1, h2, h3⟩ := h
  rcases h2.2 with ⟨rfl, h⟩ | ⟨g', c, cur, rfl, _⟩
  · exact ⟨none, 0, by rw [h], by omega⟩
  · exact ⟨_, c, rfl, fun _ => ⟨g', rfl⟩⟩

theorem take_succ_mem {α : Type} {l : List α} {k : Nat} {x y : α} (hx : l[k]? = some x) (hy : y ∈ l.take (k + 1)) : y ∈ l.take k ∨ y = x := by
  rw [List.take_add_one, hx] at hy
  simp at hy
  exact hy

theorem attr_cells (key : ByteArray) : ∀ (ks : List ByteArray) (i : Nat), ks[i]? = some key → (ks.flatMap attrCells)[i * 3]? = some (.string key) ∧ (ks.flatMap attrCells)[i * 3 + 1]? = some (.string vB) ∧ (ks.flatMap attrCells)[i * 3 + 2]? = some (.bool false)
  | [], i, h => by simp at h
  | a :: l, 0, h => by simp at h; subst h; simp [attrCells]
  | a :: l, i + 1, h => by
    simp at h
    have := attr_cells key l i h
    rw [List.flatMap_cons, show (i + 1) * 3 = i * 3 + 1 + 1 + 1 by omega]
    simp only [attrCells, List.cons_append, List.nil_append, List.getElem?_cons_succ]
    exact this

theorem ji_below {w w2 W : World} {rec : Loop} (hB : Below w.heap.size w w2) (hJ : JI w2 rec W) : Below w.heap.size w W :=
  ⟨hJ.os.trans hB.os, hJ.tape.trans hB.tape, hJ.output.trans hB.output, by have := hJ.size; have := hB.size; omega, fun k hk => (hJ.block k (by have := hB.size; omega)).trans (hB.block k hk)⟩
theorem below_put {w W : World} {D : Nat} {o : Obj} (h : Below w.heap.size w W) (hD : w.heap.size ≤ D) : Below w.heap.size w (W.putObj D o) :=
  ⟨h.os, h.tape, h.output, by have := h.size; simp; omega, fun k hk => (World.putObj_heap_other (by omega)).trans (h.block k hk)⟩

/-- Between two rounds over the paths. -/
def P1 (W : World) (qs : List Nat) (i : Value) (wr : World) : Prop := ∃ k : Nat, k ≤ qs.length ∧ i = .int .i64 k ∧ W = wr ∧ ∀ n ∈ qs.take k, n = 0

/-- (*Graph).AllSubgraphs: the iterator, over a new cell that holds the receiver. -/
theorem all_in (n : Nat) (G : Nat) (w : World) : CallsIn Fence.wide n Yba.prog 10 #[.pointer (some ⟨G, 0, none⟩)] w fun e w' => e = .returned (.func (.func 11) #[] #[.pointer (some ⟨w.heap.size, 0, none⟩)]) ∧ w.alloc (.cells #[.pointer (some ⟨G, 0, none⟩)] 35) = w' := by
  have hmf : ∀ (fn : Fn) (first cap : Array Value) (w : World), (Instr.makeFunc fn first cap).run Yba.prog w = .ok (.func fn first cap) w := fun _ _ _ _ => rfl
  refine callsIn_wide.2 ?_
  go_enter Yba.func10, Yba.ntmps10
  go_wp2
  go_ret
  exact ⟨rfl, rfl⟩

set_option maxRecDepth 100000 in
set_option maxHeartbeats 4000000 in
theorem has_in (base G : Nat) (w : World) (ao : Option Addr) (na cap : Nat) (vn ve vs vp : Value) (kss : List (List ByteArray)) (es qs ss Cr : List Nat) (C : Nat → List Nat) (V : Nat → Value) (A : Nat → Nat)
    (hg : GAt base G w ao na cap vn ve vs vp kss es qs ss Cr C V A) (hk3 : kss.length ≤ 300) (he3 : es.length ≤ 300) (hs3 : ss.length ≤ 300) (hq3 : qs.length ≤ 300) :
    CallsIn Fence.wide 3 Yba.prog 8 #[ptrV G] w (HPost w (Says na kss es ss A qs)) := by
  obtain ⟨an, cn, hvn, hgn⟩ := list_shape hg.nodes
  obtain ⟨ae, ce, hve, hge⟩ := list_shape hg.edges
  obtain ⟨ap, cp, hvp, hgp⟩ := list_shape hg.paths
  subst hvn hve hvp
  have HG : Hid (GAt base G w ao na cap (.slice an kss.length cn) (.slice ae es.length ce) vs (.slice ap qs.length cp) kss es qs ss Cr C V A) := hg
  have HGb : Hid (Blk w G (gArr ao na cap (.slice an kss.length cn) (.slice ae es.length ce) vs (.slice ap qs.length cp)) 45) := hg.g
  have hW0 : HW w false (w.alloc (.cells #[.bool false] 4)) := ⟨(Below.refl _ _).alloc (Nat.le_refl _) _, Blk.new _ _ _⟩
  have c3 : (w.alloc (.cells #[.bool false] 4)).cell? ⟨G, 3, none⟩ = some (.slice ao na cap) := (hW0.blk hg.g).cell 3
  have c4 : (w.alloc (.cells #[.bool false] 4)).cell? ⟨G, 4, none⟩ = some (.slice an kss.length cn) := (hW0.blk hg.g).cell 4
  have HW0 : Hid (HW w false (w.alloc (.cells #[.bool false] 4))) := hW0
  clear hg hW0
  refine callsIn_of_wp_marks Yba.func8 rfl trivial ?_ rfl
  simp only [Yba.ntmps8, List.size_toArray, List.length_cons, List.length_nil, Nat.reduceAdd, Nat.reduceSub, Array.replicate_succ, Array.replicate_zero, List.push_toArray, List.append_toArray, List.nil_append, List.cons_append]
  unfold ptrV
  by_cases hna : 0 < na
  · have hna' : (0 : Int) < (na : Int) := by omega
    gi_wp2
    refine ⟨.bool true, by simp [results, Yba.f8, go_sem], true, rfl, ⟨fun _ => .inl hna, fun _ => rfl⟩, (Below.refl _ _).alloc (Nat.le_refl _) _⟩
  · have hna' : ¬ (0 : Int) < (na : Int) := by omega
    gi_wp2
    gi_loopw [4, 6, 23] (fun _ _ i wr => N1 w kss i wr) (fun _ _ i _ => kss.length - (intOf i).toNat)
    case atStart => exact ⟨0, Nat.zero_le _, rfl, HW0.out, by simp⟩
    case round =>
      obtain ⟨k, hk, rfl, hw, hall⟩ := hrel
      have H1 : Hid (HW w false wr) := hw
      have HA : Hid (∀ ks ∈ kss.take k, ∀ key ∈ ks, isLab key = true) := hall
      clear hw hall c3 c4 HW0
      by_cases hlt : k < kss.length
      · obtain ⟨g, rfl⟩ := hgn (by omega)
        obtain ⟨p, ks, hp, hks, va, hb, ho, hl3⟩ := list_get HG.out.nodes hlt
        obtain ⟨aa, ca, rfl⟩ := own_shape ho
        have d1 : wr.cell? ⟨g, k, none⟩ = some (.pointer (some ⟨p, 0, none⟩)) := (World.cell?_of_block (H1.out.below.block g (World.block_lt_of_cell? w _ hp))).trans hp
        have d2 : wr.cell? ⟨p, 2, none⟩ = some (.slice aa ks.length ca) := (H1.out.blk hb).cell 2
        have HO : Hid (w.ownsRow base 50 3 (.slice aa ks.length ca) ks.length (ks.flatMap attrCells)) := ho
        have HK : Hid (kss[k]? = some ks) := hks
        clear hb ho hp hks
        gi_wp2
        gi_loopw [6, 32] (fun _ i wr => N2 w ks i wr) (fun _ i _ => ks.length - (intOf i).toNat)
        case atStart => exact ⟨0, Nat.zero_le _, rfl, H1.out, by simp⟩
        case round =>
          obtain ⟨j, hj, rfl, hw, hall⟩ := hrel
          have H2 : Hid (HW w false wr) := hw
          have HB : Hid (∀ key ∈ ks.take j, isLab key = true) := hall
          clear hw hall d1 d2 H1
          by_cases hlt2 : j < ks.length
          · obtain ⟨ga, rfl⟩ : ∃ ga, aa = some ⟨ga, 0, none⟩ := by
              obtain ⟨g, c, h⟩ := own_some HO.out (by omega)
              simp at h
              exact ⟨g, h.1⟩
            obtain ⟨key, hkey⟩ : ∃ key, ks[j]? = some key := ⟨ks[j], List.getElem?_eq_getElem hlt2⟩
            obtain ⟨k1, k2, k3⟩ := attr_cells key ks j hkey
            have f1 := (H2.out.own HO.out).cells (g := ga) rfl _ _ k1
            have f2 := (H2.out.own HO.out).cells (g := ga) rfl _ _ k2
            have f3 := (H2.out.own HO.out).cells (g := ga) rfl _ _ k3
            rw [Addr.add_lit, Nat.zero_add] at f1 f2 f3
            have HKe : Hid (ks[j]? = some key) := hkey
            have r1 := H2.out.res.free 0
            clear hkey k1 k2 k3
            have r2 : (wr.alloc (.cells #[.string key, .string vB, .bool false] 50)).cell? ⟨w.heap.size, 0, none⟩ = some (.bool false) := (H2.out.res.alloc _).cell 0
            have r3 := (H2.out.res.alloc (.cells #[.string key, .string vB, .bool false] 50)).free 0
            by_cases hne : (key.toList == [108, 97, 98, 101, 108]) = true
            · gi_wp2
              go_roundw
              case rel => exact ⟨j + 1, by omega, by simp, H2.out.alloc _, fun y hy => (take_succ_mem HKe.out hy).elim (HB.out y) (fun e => e ▸ hne)⟩
              case measure => simp [intOf]; omega
            · have hne2 : (key.toList == [108, 97, 98, 101, 108]) = false := by simpa using hne
              clear hne
              gi_wp2
              have hres := ((H2.out.alloc (.cells #[.string key, .string vB, .bool false] 50)).set true)
              have hc := hres.res.cell 0
              exact ⟨.bool true, by simp [results, Yba.f8, go_sem, hc], true, rfl, ⟨fun _ => .inr (.inl ⟨ks, List.mem_of_getElem? HK.out, key, List.mem_of_getElem? HKe.out, hne2⟩), fun _ => rfl⟩, hres.below⟩
          · obtain rfl : j = ks.length := by omega
            gi_wp2
            go_roundw
            case rel => exact ⟨k + 1, by omega, by simp, H2.out, fun y hy => (take_succ_mem HK.out hy).elim (HA.out y) (fun e => by subst e; simpa using HB.out)⟩
            case measure => simp [intOf]; omega
      · obtain rfl : k = kss.length := by omega
        have c5 : wr.cell? ⟨G, 5, none⟩ = some (.slice ae es.length ce) := (H1.out.blk HGb.out).cell 5
        have HN : Hid (∀ ks ∈ kss, ∀ key ∈ ks, isLab key = true) := by
          show ∀ ks ∈ kss, ∀ key ∈ ks, isLab key = true
          simpa using HA.out
        clear HA
        gi_wp2
        gi_loopw [8, 46] (fun _ i wr => E1 w es i wr) (fun _ i _ => es.length - (intOf i).toNat)
        case atStart => exact ⟨0, Nat.zero_le _, rfl, H1.out, by simp⟩
        case round =>
          obtain ⟨k, hk, rfl, hw, hall⟩ := hrel
          have H2 : Hid (HW w false wr) := hw
          have HA : Hid (∀ n ∈ es.take k, n = 0) := hall
          clear hw hall c5 H1
          by_cases hlt : k < es.length
          · obtain ⟨g, rfl⟩ := hge (by omega)
            obtain ⟨p, m, hp, hm, eao, ecap, hb⟩ := list_get HG.out.edges hlt
            have d1 : wr.cell? ⟨g, k, none⟩ = some (.pointer (some ⟨p, 0, none⟩)) := (World.cell?_of_block (H2.out.below.block g (World.block_lt_of_cell? w _ hp))).trans hp
            have d2 : wr.cell? ⟨p, 2, none⟩ = some (.slice eao m ecap) := (H2.out.blk hb).cell 2
            have r2 : wr.cell? ⟨w.heap.size, 0, none⟩ = some (.bool false) := H2.out.res.cell 0
            have r3 := H2.out.res.free 0
            have HK : Hid (es[k]? = some m) := hm
            clear hb hp hm
            by_cases hm0 : 0 < m
            · have hm1 : (0 : Int) < (m : Int) := by omega
              gi_wp2
              have hres := H2.out.set true
              have hc := hres.res.cell 0
              exact ⟨.bool true, by simp [results, Yba.f8, go_sem, hc], true, rfl, ⟨fun _ => .inr (.inr (.inl ⟨m, List.mem_of_getElem? HK.out, hm0⟩)), fun _ => rfl⟩, hres.below⟩
            · have hm1 : ¬ (0 : Int) < (m : Int) := by omega
              gi_wp2
              go_roundw
              case rel => exact ⟨k + 1, by omega, by simp, H2.out, fun y hy => (take_succ_mem HK.out hy).elim (HA.out y) (fun e => by subst e; omega)⟩
              case measure => simp [intOf]; omega
          · obtain rfl : k = es.length := by omega
            have HE : Hid (∀ n ∈ es, n = 0) := by
              show ∀ n ∈ es, n = 0
              simpa using HA.out
            clear HA
            gi_wp2
            refine ⟨trivial, CallsIn.mono (all_in 2 G wr) ?_⟩
            rintro e w' ⟨rfl, hw2⟩
            obtain ⟨w2, rfl⟩ : ∃ w2, w2 = w' := ⟨_, rfl⟩
            have K2 : Kp [] w w2 := by rw [← hw2]; exact (Kp.of_below H2.out.below).alloc _
            have G2 : Blk w2 wr.heap.size #[ptrV G] 35 := by rw [← hw2]; exact Blk.new _ _ _
            have B2 : Below w.heap.size w w2 := by rw [← hw2]; exact (H2.out.alloc _).below
            have R2 : Blk w2 w.heap.size #[.bool false] 4 := by rw [← hw2]; exact H2.out.res.alloc _
            have HK2 : Hid (Kp [] w w2) := K2
            have HG2 : Hid (Blk w2 wr.heap.size #[ptrV G] 35) := G2
            have HB2 : Hid (Below w.heap.size w w2) := B2
            have HR2 : Hid (Blk w2 w.heap.size #[.bool false] 4) := R2
            generalize wr.heap.size = gc at HG2 ⊢
            clear hw2 K2 G2 B2 R2 H2
            gi_wp2
            have hss : Hid (∀ p ∈ ss, ∃ sao scap, Blk w2 p (subArr sao (A p) scap (V p)) 58) := fun p hp => by
              obtain ⟨x, y, h⟩ := HG.out.subs.sub p hp
              exact ⟨x, y, HK2.out.block _ _ _ h (by simp)⟩
            refine range_stop (w := w2) (by omega) (lb := #[.pointer (some ⟨gc, 0, none⟩)]) rfl (enters_of Yba.func11 (by kernel_rfl) rfl) rfl w.heap.size HR2.out.lt ss A ?iter
              (fun p d => { tmps := (((.pointer (some ⟨G, 0, none⟩)) : Value) :: undef :: ((.pointer (some ⟨w.heap.size, 0, none⟩)) : Value) :: undef :: u4 :: undef :: u6 :: undef :: u8 :: ((.pointer (some ⟨p, 0, none⟩)) : Value) :: undef :: undef :: ((.pointer (some ⟨G, 0, none⟩)) : Value) :: ((.pointer (some ⟨G, 0, none⟩)) : Value) :: ((.pointer (some ⟨G, 3, none⟩)) : Value) :: ((.slice ao na cap) : Value) :: ((.int .i64 na) : Value) :: ((.bool false) : Value) :: ((.pointer (some ⟨G, 0, none⟩)) : Value) :: ((.pointer (some ⟨G, 0, none⟩)) : Value) :: ((.pointer (some ⟨G, 4, none⟩)) : Value) :: ((.slice an kss.length cn) : Value) :: ((.int .i64 kss.length) : Value) :: ((.int .i64 kss.length) : Value) :: ((.bool false) : Value) :: u25 :: u26 :: u27 :: u28 :: u29 :: u30 :: u31 :: u32 :: u33 :: u34 :: u35 :: u36 :: u37 :: u38 :: u39 :: u40 :: ((.pointer (some ⟨G, 0, none⟩)) : Value) :: ((.pointer (some ⟨G, 0, none⟩)) : Value) :: ((.pointer (some ⟨G, 5, none⟩)) : Value) :: ((.slice ae es.length ce) : Value) :: ((.int .i64 es.length) : Value) :: ((.int .i64 es.length) : Value) :: ((.bool false) : Value) :: u48 :: u49 :: u50 :: u51 :: u52 :: u53 :: u54 :: u55 :: u56 :: ((.pointer (some ⟨G, 0, none⟩)) : Value) :: ((.func (.func 11) #[] #[.pointer (some ⟨gc, 0, none⟩)]) : Value) :: ((.pointer (some ⟨p, 0, none⟩)) : Value) :: ((.int .i64 d) : Value) :: undef :: undef :: undef :: undef :: undef :: undef :: undef :: undef :: undef :: undef :: undef :: undef :: undef :: undef :: undef :: undef :: undef :: undef :: undef :: undef :: undef :: undef :: []).toArray, defers := [] }) ?assign ?body ?done ?stop
            case iter =>
              intro rec X hY W hJ
              exact iter_in 2 (by omega) w2 rec base gc G _ _ _ _ _ _ _ ss Cr C V A HG2.out (HK2.out.block _ _ _ HGb.out (by simp)) (HG.out.subs.kp HK2.out (by simp) (by simp)) hs3 X hY W hJ
            case assign =>
              intro l p d W K hK
              unfold ptrV
              gi_wp2
              exact hK
            case body =>
              intro l p d rec W hp hJ
              obtain ⟨sao, scap, hb⟩ := hss.out p hp
              have d1 : W.cell? ⟨p, 1, none⟩ = some (.slice sao (A p) scap) := (hJ.blk hb).cell 1
              have d2 : W.cell? ⟨w.heap.size, 0, none⟩ = some (.bool false) := (hJ.blk HR2.out).cell 0
              have d3 := (hJ.blk HR2.out).free 0
              clear hb hJ
              by_cases hm0 : 0 < A p
              · have hm1 : (0 : Int) < (A p : Int) := by omega
                gi_wp2
              · have hm1 : ¬ (0 : Int) < (A p : Int) := by omega
                gi_wp2
                omega
            case done =>
              intro rec W hJ hall
              have hB := ji_below HB2.out hJ
              have c7 : W.cell? ⟨G, 7, none⟩ = some (.slice ap qs.length cp) := (hJ.blk (HK2.out.block _ _ _ HGb.out (by simp))).cell 7
              have d2 : W.cell? ⟨w.heap.size, 0, none⟩ = some (.bool false) := (hJ.blk HR2.out).cell 0
              have d3 := (hJ.blk HR2.out).free 0
              have HJ : Hid (JI w2 rec W) := hJ
              have HB : Hid (Below w.heap.size w W) := hB
              have HS : Hid (∀ p ∈ ss, A p = 0) := hall
              have hlt2 : w.heap.size < w2.heap.size := HR2.out.lt
              clear hJ hB hall
              gi_wp2
              gi_loopw [11, 72] (fun _ i wr => P1 W qs i wr) (fun _ i _ => qs.length - (intOf i).toNat)
              case atStart => exact ⟨0, Nat.zero_le _, rfl, rfl, by simp⟩
              case round =>
                obtain ⟨k, hk, rfl, rfl, hall⟩ := hrel
                have HA : Hid (∀ n ∈ qs.take k, n = 0) := hall
                clear hall
                by_cases hlt : k < qs.length
                · obtain ⟨g, rfl⟩ := hgp (by omega)
                  obtain ⟨p, m, hp, hm, eao, ecap, hb⟩ := list_get HG.out.paths hlt
                  have e1 : W.cell? ⟨g, k, none⟩ = some (.pointer (some ⟨p, 0, none⟩)) := (World.cell?_of_block (HB.out.block g (World.block_lt_of_cell? w _ hp))).trans hp
                  have e2 : W.cell? ⟨p, 1, none⟩ = some (.slice eao m ecap) := (HJ.out.blk (HK2.out.block _ _ _ hb (by simp))).cell 1
                  have HK : Hid (qs[k]? = some m) := hm
                  clear hb hp hm
                  by_cases hm0 : 0 < m
                  · have hm1 : (0 : Int) < (m : Int) := by omega
                    gi_wp2
                    have hK' : (W.setCell ⟨w.heap.size, 0, none⟩ (.bool true)).heap[w2.heap.size]? = some (.deferred (some [])) := heap_set_other HJ.out.de (by omega) _ _
                    refine ⟨by simp, .inl ⟨_, _, rfl, run_takeDeferred hK', ?_⟩⟩
                    have hc := (((HJ.out.blk HR2.out).set 0 (.bool true)).put (r := w2.heap.size) (by omega) (.deferred none)).cell 0
                    exact ⟨.bool true, by simp [results, Yba.f8, go_sem, hc], true, rfl, ⟨fun _ => .inr (.inr (.inr (.inr ⟨m, List.mem_of_getElem? HK.out, hm0⟩))), fun _ => rfl⟩, below_put (HB.out.setCell (Nat.le_refl _) _) (by omega)⟩
                  · have hm1 : ¬ (0 : Int) < (m : Int) := by omega
                    gi_wp2
                    go_roundw
                    case rel => exact ⟨k + 1, by omega, by simp, rfl, fun y hy => (take_succ_mem HK.out hy).elim (HA.out y) (fun e => by subst e; omega)⟩
                    case measure => simp [intOf]; omega
                · obtain rfl : k = qs.length := by omega
                  have HQ : ∀ n ∈ qs, n = 0 := by simpa using HA.out
                  have HQ' : Hid (∀ n ∈ qs, n = 0) := HQ
                  clear HQ
                  gi_wp2
                  have hK' : (W.setCell ⟨w.heap.size, 0, none⟩ (.bool false)).heap[w2.heap.size]? = some (.deferred (some [])) := heap_set_other HJ.out.de (by omega) _ _
                  refine ⟨by simp, .inl ⟨_, _, rfl, run_takeDeferred hK', ?_⟩⟩
                  have hc := (((HJ.out.blk HR2.out).set 0 (.bool false)).put (r := w2.heap.size) (by omega) (.deferred none)).cell 0
                  refine ⟨.bool false, by simp [results, Yba.f8, go_sem, hc], false, rfl, ⟨fun h => by simp at h, fun h => ?_⟩, below_put (HB.out.setCell (Nat.le_refl _) _) (by omega)⟩
                  rcases h with h | ⟨ks, h1, key, h2, h3⟩ | ⟨n, h1, h2⟩ | ⟨p, h1, h2⟩ | ⟨n, h1, h2⟩
                  · exact absurd h hna
                  · rw [HN.out ks h1 key h2] at h3; simp at h3
                  · have := HE.out n h1; omega
                  · have := HS.out p h1; omega
                  · have := HQ'.out n h1; omega
            case stop =>
              intro rec W hJ hex
              have hs : (w2.setCell ⟨w.heap.size, 0, none⟩ (.bool true)).heap.size = w2.heap.size := by simp
              have hd := hJ.de
              rw [hs] at hd
              have hlt2 : w.heap.size < w2.heap.size := HR2.out.lt
              have hB : Below w.heap.size w W := ji_below (HB2.out.setCell (Nat.le_refl _) _) hJ
              have hR := hJ.blk (HR2.out.set 0 (.bool true))
              gi_wp2
              refine ⟨by simp, .inl ⟨_, _, rfl, run_takeDeferred hd, ?_⟩⟩
              have hc := (hR.put (r := w2.heap.size) (by omega) (.deferred none)).cell 0
              exact ⟨.bool true, by simp [results, Yba.f8, go_sem, hc], true, rfl, ⟨fun _ => .inr (.inr (.inr (.inl hex))), fun _ => rfl⟩, below_put hB (by omega)⟩

theorem has_any (base G : Nat) (w : World) (ao : Option Addr) (na cap : Nat) (vn ve vs vp : Value) (kss : List (List ByteArray)) (es qs ss Cr : List Nat) (C : Nat → List Nat) (V : Nat → Value) (A : Nat → Nat)
    (hg : GAt base G w ao na cap vn ve vs vp kss es qs ss Cr C V A) (hk3 : kss.length ≤ 300) (he3 : es.length ≤ 300) (hs3 : ss.length ≤ 300) (hq3 : qs.length ≤ 300) :
    Calls Yba.prog 8 #[.pointer (some ⟨G, 0, none⟩)] w (HPost w (Says na kss es ss A qs)) :=
  (callsIn_wide (n := 3)).1 (has_in base G w ao na cap vn ve vs vp kss es qs ss Cr C V A hg hk3 he3 hs3 hq3)
end Exa
end Go.Proofs.Ybulkcpu
