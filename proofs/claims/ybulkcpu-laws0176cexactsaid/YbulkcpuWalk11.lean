import Derived.RangeFuncNested
import Derived.RangeFuncBound
import Derived.RangeFuncCalls
import Derived.RangeFuncLeaves
import Derived.Shelf.Abstract
import Derived.OwnWalkIn
import Derived.Maps.OwnIn
import Derived.TacticsInMore
import Derived.LoopNIn
import Derived.LoopIn
import Derived.Test.YbulkcpuDfs
namespace Go.Proofs.Ybulkcpu
open Go.RowKit Go.Shelf
set_option linter.unusedVariables false
set_option linter.unusedSimpArgs false
attribute [local go_sem] Oper.semAt_some

namespace Exa
theorem Blk.put {w : World} {b r : Nat} {arr : Array Value} {t : TypeId} (h : Blk w b arr t) (hne : b ≠ r) (o : Obj) : Blk (w.putObj r o) b arr t := (World.putObj_heap_other hne).trans h
/-- While the range over the subgraphs runs: what lay at its start lies as it lay; its two blocks. -/
structure JI (w : World) (rec : Loop) (W : World) : Prop where
  os : W.os = w.os
  tape : W.tape = w.tape
  output : W.output = w.output
  size : w.heap.size + 2 ≤ W.heap.size
  block : ∀ k, k < w.heap.size → W.heap[k]? = w.heap[k]?
  de : W.heap[w.heap.size]? = some (.deferred (some []))
  lo : W.heap[w.heap.size + 1]? = some (.loop rec)

theorem JI.alloc {w : World} {rec : Loop} {W : World} (h : JI w rec W) (o : Obj) : JI w rec (W.alloc o) :=
  ⟨h.os, h.tape, h.output, by have := h.size; simp; omega, fun k hk => by
    have hl : k < W.heap.size := by have := h.size; omega
    rw [← h.block k hk]
    show (W.heap.push o)[k]? = _
    rw [Array.getElem?_push_lt hl, Array.getElem?_eq_getElem hl], heap_alloc_old h.de o, heap_alloc_old h.lo o⟩
theorem JI.setCell {w : World} {rec : Loop} {W : World} (h : JI w rec W) {b : Nat} (hb : w.heap.size + 2 ≤ b) (i : Nat) (v : Value) : JI w rec (W.setCell ⟨b, i, none⟩ v) :=
  ⟨h.os, h.tape, h.output, by have := h.size; simp; omega, fun k hk => by
    rw [← h.block k hk]
    have hne : b ≠ k := by omega
    simp [World.setCell, Array.getElem?_modify, hne], heap_set_other h.de (by omega) _ _, heap_set_other h.lo (by omega) _ _⟩
theorem JI.grown {w : World} {rec : Loop} {W W' : World} {r : Option Nat} (h : JI w rec W) (hg : W.grownBy W' r) (hr : ∀ k, r = some k → w.heap.size + 2 ≤ k) : JI w rec W' := by
  have hne : ∀ k, k < w.heap.size + 2 → some k ≠ r := fun k hk e => by have := hr k e.symm; omega
  have hs := h.size
  refine ⟨hg.os.trans h.os, hg.tape.trans h.tape, hg.output.trans h.output, Nat.le_trans hs hg.size, fun k hk => (hg.block k (by omega) (hne k (by omega))).trans (h.block k hk), ?_, ?_⟩
  · exact (hg.block _ (by omega) (hne _ (by omega))).trans h.de
  · exact (hg.block _ (by omega) (hne _ (by omega))).trans h.lo
theorem JI.blk {w : World} {rec : Loop} {W : World} (h : JI w rec W) {b : Nat} {arr : Array Value} {t : TypeId} (hb : Blk w b arr t) : Blk W b arr t := (h.block b hb.lt).trans hb
theorem JI.own {w : World} {rec : Loop} {W : World} (h : JI w rec W) {base : Nat} {e : TypeId} {size : Nat} {v : Value} {n : Nat} {xs : List Value} (ho : w.ownsRow base e size v n xs) : W.ownsRow base e size v n xs := by
  rcases ho with ⟨h0, ⟨rfl, rfl⟩ | ⟨g, cap, cur, rfl, h1, h2, h3⟩⟩
  · exact ⟨h0, .inl ⟨rfl, rfl⟩⟩
  · exact ⟨h0, .inr ⟨g, cap, cur, rfl, h1, h.blk h2, h3⟩⟩

/-- Only block l may have turned. -/
structure Keep (l : Nat) (W W' : World) : Prop where
  os : W'.os = W.os
  tape : W'.tape = W.tape
  output : W'.output = W.output
  size : W'.heap.size = W.heap.size
  block : ∀ k, k ≠ l → W'.heap[k]? = W.heap[k]?

theorem Keep.blk {l : Nat} {W W' : World} (h : Keep l W W') {b : Nat} {arr : Array Value} {t : TypeId} (hb : Blk W b arr t) (hne : b ≠ l) : Blk W' b arr t := (h.block b hne).trans hb
theorem Keep.own {l : Nat} {W W' : World} (h : Keep l W W') {base : Nat} {e : TypeId} {size : Nat} {v : Value} {n : Nat} {xs : List Value} (ho : W.ownsRow base e size v n xs) (hl : l < base) : W'.ownsRow base e size v n xs := by
  rcases ho with ⟨h0, ⟨rfl, rfl⟩ | ⟨g, cap, cur, rfl, h1, h2, h3⟩⟩
  · exact ⟨h0, .inl ⟨rfl, rfl⟩⟩
  · exact ⟨h0, .inr ⟨g, cap, cur, rfl, h1, h.blk h2 (by omega), h3⟩⟩

/-- The first loop of AllSubgraphs's iterator: what is pending, from place j on. -/
def L1 (w : World) (rec : Loop) (Cr : List Nat) (v i : Value) (W : World) : Prop :=
  ∃ (j : Nat) (items : List (Nat × Int)), j ≤ Cr.length ∧ i = .int .i64 ((j : Int) - 1) ∧ items.map Prod.fst = (Cr.drop j).reverse ∧ W.ownsRow (w.heap.size + 2) 70 2 v items.length (items.flatMap visCells) ∧ JI w rec W
/-- The second loop. -/
def L2 (w : World) (rec : Loop) (ss Cr : List Nat) (C : Nat → List Nat) (A : Nat → Nat) (v : Value) (W : World) : Prop :=
  ∃ (vis : List Nat) (items : List (Nat × Int)), DInv ss Cr C A vis (items.map Prod.fst) ∧ W.ownsRow (w.heap.size + 2) 70 2 v items.length (items.flatMap visCells) ∧ JI w rec W
/-- The third: the children of p, from place j on, over the rest. -/
def L3 (w : World) (rec : Loop) (rest Cp : List Nat) (bv p : Nat) (d : Int) (v i : Value) (W : World) : Prop :=
  ∃ (j : Nat) (items : List (Nat × Int)), j ≤ Cp.length ∧ i = .int .i64 ((j : Int) - 1) ∧ items.map Prod.fst = rest ++ (Cp.drop j).reverse ∧ W.ownsRow (w.heap.size + 2) 70 2 v items.length (items.flatMap visCells) ∧ JI w rec W ∧ Blk W bv #[ptrV p, .int .i64 d] 70 ∧ ∀ k, v.ownBlock = some k → k ≠ bv

theorem l3_push {w : World} {rec : Loop} {restB Cp : List Nat} {bv p q j cap5 : Nat} {d d' : Int} {ao5 : Option Addr} {its : List (Nat × Int)} {wr w2 : World} {v' : Value} (hj : j ≤ Cp.length) (hj0 : 0 < j) (hq : Cp[j - 1]? = some q)
    (hI : its.map Prod.fst = restB ++ (Cp.drop j).reverse) (hJ : JI w rec wr) (hB : Blk wr bv #[ptrV p, .int .i64 d] 70) (hbv : ∀ k, (Value.slice ao5 its.length cap5).ownBlock = some k → k ≠ bv) (hO : wr.ownsRow (w.heap.size + 2) 70 2 (.slice ao5 its.length cap5) its.length (its.flatMap visCells))
    (hown' : w2.ownsRow (w.heap.size + 2) 70 2 v' (its.length + 1) (its.flatMap visCells ++ [ptrV q, .int .i64 d'])) (hgrow : (wr.drew.alloc (.cells #[ptrV q, .int .i64 d'] 70)).grownBy w2 (Value.slice ao5 its.length cap5).ownBlock) (hat : v'.ownBlock = (Value.slice ao5 its.length cap5).ownBlock ∨ v'.ownBlock = some (wr.drew.alloc (.cells #[ptrV q, .int .i64 d'] 70)).heap.size) :
    L3 w rec restB Cp bv p d v' (.int .i64 ((j : Int) - 1 - 1)) w2 := by
  have J2 : JI w rec w2 := JI.grown (W := wr.drew.alloc _) (JI.alloc (W := wr.drew) ⟨hJ.os, hJ.tape, hJ.output, hJ.size, hJ.block, hJ.de, hJ.lo⟩ _) hgrow (fun k hk => (hO.lt k hk).1)
  refine ⟨j - 1, its ++ [(q, d')], by omega, by congr 1; omega, ?_, ?_, J2, ?_, ?_⟩
  · rw [List.map_append, hI]
    have : Cp.drop (j - 1) = q :: Cp.drop j := by
      have h1 : j - 1 < Cp.length := by omega
      rw [List.drop_eq_getElem_cons h1]
      rw [List.getElem?_eq_getElem h1] at hq
      simp at hq
      rw [hq, show j - 1 + 1 = j by omega]
    rw [this]
    simp
  · simpa [visCells] using hown'
  · exact Blk.grown (w := wr.drew.alloc _) (Blk.alloc (w := wr.drew) hB _) hgrow (fun e => hbv bv e rfl)
  · intro k hk
    rcases hat with h | h
    · exact hbv k (h ▸ hk)
    · rw [h] at hk
      have h1 := Option.some.inj hk
      have h2 := hB.lt
      simp at h1
      omega

theorem sum_rev (g : Nat → Nat) : ∀ l : List Nat, (l.reverse.map g).sum = (l.map g).sum
  | [] => rfl
  | a :: l => by have := sum_rev g l; simp only [List.reverse_cons, List.map_append, List.sum_append, this, List.map_cons, List.map_nil, List.sum_cons, List.sum_nil]; omega
theorem measure_lt {C : Nat → List Nat} {N p : Nat} {d : Int} {rest its : List (Nat × Int)} (hI : its.map Prod.fst = rest.map Prod.fst ++ ((C p).drop 0).reverse) (hp : p < N) (hk : ∀ c ∈ C p, p < c) :
    (its.map (fun x => Wt C N x.1)).sum < ((rest ++ [(p, d)]).map (fun x => Wt C N x.1)).sum := by
  have h1 : its.map (fun x => Wt C N x.1) = (its.map Prod.fst).map (Wt C N) := by simp
  have h2 : rest.map (fun x => Wt C N x.1) = (rest.map Prod.fst).map (Wt C N) := by simp
  have h3 := wt_step hp hk
  rw [h1, hI, List.map_append, List.sum_append, sum_rev, List.map_append, List.sum_append, h2]
  simp only [List.drop_zero, List.map_cons, List.map_nil, List.sum_cons, List.sum_nil]
  omega

/-- What the iterator leaves. -/
def IPost (w : World) (rec : Loop) (X : World → Prop) (ss : List Nat) (A : Nat → Nat) (e : Ending) (W' : World) : Prop :=
  (∃ v, e = .returned v) ∧ ((JI w rec W' ∧ ∀ p ∈ ss, A p = 0) ∨ (X W' ∧ ∃ p ∈ ss, 0 < A p))

set_option maxRecDepth 100000 in
set_option maxHeartbeats 2000000 in
theorem iter_in (n : Nat) (hn : 1 ≤ n) (w : World) (rec : Loop) (base Gc G : Nat) (ao : Option Addr) (na cap : Nat) (vn ve vs vp : Value) (ss Cr : List Nat) (C : Nat → List Nat) (V : Nat → Value) (A : Nat → Nat)
    (hGc : Blk w Gc #[ptrV G] 35) (hG : Blk w G (gArr ao na cap vn ve vs vp) 45) (hF : Forest base w vs ss Cr C V A) (h300 : ss.length ≤ 300) (X : World → Prop)
    (hY : ∀ p ∈ ss, ∀ (d : Int) (W : World), JI w rec W → YieldAt Fence.wide (n - 1) Yba.prog (w.heap.size + 1) #[ptrV p, .int .i64 d] W fun e W' => (e = .returned (.bool true) ∧ A p = 0 ∧ Keep (w.heap.size + 1) W W' ∧ JI w rec W') ∨ (e = .returned (.bool false) ∧ 0 < A p ∧ X W'))
    (W : World) (h0 : JI w rec W) :
    CallsIn Fence.wide n Yba.prog 11 #[.func (.yield (w.heap.size + 1)) #[] #[], .pointer (some ⟨Gc, 0, none⟩)] W (IPost w rec X ss A) := by
  obtain ⟨i0, hi0, hz0, hz1, hz2⟩ := info_parts info70
  have hrl : Cr.length ≤ 300 := Nat.le_trans hF.rootSmall h300
  obtain ⟨aor, capr, hvs⟩ := own_shape hF.root
  subst hvs
  have c1 : W.cell? ⟨Gc, 0, none⟩ = some (ptrV G) := (h0.blk hGc).cell 0
  have c2 : W.cell? ⟨G, 6, none⟩ = some (.slice aor Cr.length capr) := (h0.blk hG).cell 6
  unfold ptrV at c1
  have HF : Hid (Forest base w (.slice aor Cr.length capr) ss Cr C V A) := hF
  have HGc : Hid (Blk w Gc #[ptrV G] 35) := hGc
  have HG : Hid (Blk w G (gArr ao na cap vn ve (.slice aor Cr.length capr) vp) 45) := hG
  have HY : Hid _ := hY
  have H0 : Hid (JI w rec W) := h0
  have hbs : w.heap.size + 2 ≤ W.heap.size := h0.size
  clear hF hGc hG hY h0
  refine callsIn_of_wp Yba.func11 rfl trivial ?_ rfl
  simp only [Yba.ntmps11, List.size_toArray, List.length_cons, List.length_nil, Nat.reduceAdd, Nat.reduceSub, Array.replicate_succ, Array.replicate_zero, List.push_toArray, List.append_toArray, List.nil_append, List.cons_append]
  gi_wp2_with (gi_at_make; (refine wpListIn_make_own _ rfl _ _ 68 rfl (w.heap.size + 2) 70 i0 _ 2 Yba.underlying68 hi0 hz0 hz1 .i64 .i64 _ Cr.length rfl rfl rfl ?b2 ?b3 hbs ?_))
  case b2 => rw [hz2]; omega
  case b3 => unfold maxLen; omega
  intro w1 hown1 hgrow1
  have J1 : JI w rec w1 := H0.out.grown hgrow1 (by simp)
  have d1 : w1.cell? ⟨Gc, 0, none⟩ = some (.pointer (some ⟨G, 0, none⟩)) := (J1.blk HGc.out).cell 0
  have d2 : w1.cell? ⟨G, 6, none⟩ = some (.slice aor Cr.length capr) := (J1.blk HG.out).cell 6
  have HO1 : Hid (w1.ownsRow (w.heap.size + 2) 70 2 (.slice (some ⟨W.heap.size, 0, none⟩) 0 Cr.length) 0 []) := hown1
  have HJ1 : Hid (JI w rec w1) := J1
  clear hown1 hgrow1 J1 c1 c2
  gi_wp2
  gi_loopw [3, 4] (fun v i wr => L1 w rec Cr v i wr) (fun _ i _ => (intOf i + 1).toNat)
  case atStart => exact ⟨Cr.length, [], Nat.le_refl _, rfl, by simp, HO1.out, HJ1.out⟩
  case round =>
    obtain ⟨j, items, hj, rfl, hit, hown, hJ⟩ := hrel
    obtain ⟨ao3, cap3, rfl⟩ := own_shape hown
    have hil : items.length + j = Cr.length := by have := congrArg List.length hit; simp at this; omega
    have HO : Hid (wr.ownsRow (w.heap.size + 2) 70 2 (.slice ao3 items.length cap3) items.length (items.flatMap visCells)) := hown
    have HJ : Hid (JI w rec wr) := hJ
    have hbr : w.heap.size + 2 ≤ wr.heap.size := hJ.size
    have e1 : wr.cell? ⟨Gc, 0, none⟩ = some (.pointer (some ⟨G, 0, none⟩)) := (hJ.blk HGc.out).cell 0
    have e2 : wr.cell? ⟨G, 6, none⟩ = some (.slice aor Cr.length capr) := (hJ.blk HG.out).cell 6
    have HI : Hid (items.map Prod.fst = (Cr.drop j).reverse) := hit
    clear hown hJ hit d1 d2 HO1 HJ1
    by_cases hj0 : 0 < j
    · obtain ⟨gr, hgr⟩ : ∃ gr, aor = some ⟨gr, 0, none⟩ := by
        obtain ⟨g, c, h⟩ := own_some HF.out.root (by omega)
        simp at h
        exact ⟨g, h.1⟩
      subst hgr
      obtain ⟨p, hp⟩ : ∃ p, Cr[j - 1]? = some p := ⟨Cr[j - 1]'(by omega), List.getElem?_eq_getElem (by omega)⟩
      have e3 : wr.cell? ⟨gr, j - 1, none⟩ = some (.pointer (some ⟨p, 0, none⟩)) := by
        have h1 := (HJ.out.own HF.out.root).cells (g := gr) rfl (j - 1) (ptrV p) (by rw [List.getElem?_map, hp]; rfl)
        rw [Addr.add_lit, Nat.zero_add] at h1
        exact h1
      have n1 : ((j : Int) - 1).toNat = j - 1 := by omega
      have n2 : (0 : Int) ≤ (j : Int) - 1 := by omega
      have n3 : (j : Int) - 1 < (Cr.length : Int) := by omega
      gi_wp2_with (gi_at_builtin; (refine wpListIn_append_own_at _ rfl _ _ 68 rfl (w.heap.size + 2) 70 i0 _ 2 16 Yba.underlying68 hi0 hz0 hz1 hz2 rfl (by decide) _ items.length (items.flatMap visCells) rfl (HO.out.alloc _) ⟨wr.heap.size, 0, none⟩ 1 1 [ptrV p, .int .i64 1] rfl rfl ?c1 ?c2 ?c3 ?c4 ?c5 ?_))
      case c1 => exact cells_new wr [ptrV p, .int .i64 1] 70
      case c2 => intro u hu; simp at hu; rcases hu with rfl | rfl <;> rfl
      case c3 => unfold maxLen; omega
      case c4 => omega
      case c5 => simp; omega
      intro v' w2 hown' hgrow hnil hat
      have J2 : JI w rec w2 := (HJ.out.alloc _).grown hgrow (fun k hk => (HO.out.lt k hk).1)
      have R : Hid (L1 w rec Cr v' (.int .i64 ((j : Int) - 1 - 1)) w2) := by
        show L1 w rec Cr v' (.int .i64 ((j : Int) - 1 - 1)) w2
        refine ⟨j - 1, items ++ [(p, 1)], by omega, by congr 1; omega, ?_, ?_, J2⟩
        · rw [List.map_append, HI.out]
          have : Cr.drop (j - 1) = p :: Cr.drop j := by
            have h1 : j - 1 < Cr.length := by omega
            rw [List.drop_eq_getElem_cons h1]
            rw [List.getElem?_eq_getElem h1] at hp
            simp at hp
            rw [hp, show j - 1 + 1 = j by omega]
          rw [this]
          simp
        · simpa [visCells] using hown'
      clear hown' hgrow hnil hat J2
      gi_wp2
      go_roundw
      case rel => first | exact R.out | ((repeat apply Exists.intro); exact ⟨R.out, rfl⟩)
      case measure => simp [intOf]; omega
    · obtain rfl : j = 0 := by omega
      have n2 : ¬ (0 : Int) ≤ ((0 : Nat) : Int) - 1 := by omega
      gi_wp2
      gi_loopw [3, 5, 6] (fun v _ _ wr => L2 w rec ss Cr C A v wr) (fun v _ _ wr => stackW (Wt C w.heap.size) wr v)
      case atStart => exact ⟨[], items, by rw [HI.out]; exact DInv.start HF.out, HO.out, HJ.out⟩
      case round =>
        obtain ⟨vis, its, hD, hown, hJ⟩ := hrel
        have HD : Hid (DInv ss Cr C A vis (its.map Prod.fst)) := hD
        have HJ2 : Hid (JI w rec wr) := hJ
        clear hD hJ e1 e2 HO HJ HI hbr
        rcases List.eq_nil_or_concat its with rfl | ⟨rest, x, hcc⟩
        · obtain ⟨ao4, cap4, rfl⟩ := own_shape hown
          clear hown
          gi_wp2
          go_end0
          exact ⟨⟨_, rfl⟩, .inl ⟨HJ2.out, HD.out.done HF.out⟩⟩
        · rw [List.concat_eq_append] at hcc
          subst hcc
          obtain ⟨p, d⟩ := x
          obtain ⟨g4, cap4, rfl⟩ := own_some hown (by simp)
          have hl4 : (rest ++ [(p, d)]).length = rest.length + 1 := by simp
          rw [hl4] at hown ⊢
          have ci := own_items (w := wr) (items := rest ++ [(p, d)]) (by rw [hl4]; exact hown) rest.length (p, d) (by simp)
          obtain ⟨ci1, ci2⟩ := ci
          have HO : Hid (wr.ownsRow (w.heap.size + 2) 70 2 (.slice (some ⟨g4, 0, none⟩) (rest.length + 1) cap4) (rest.length + 1) ((rest ++ [(p, d)]).flatMap visCells)) := hown
          have HM : Hid (stackW (Wt C w.heap.size) wr (.slice (some ⟨g4, 0, none⟩) (rest.length + 1) cap4) = ((rest ++ [(p, d)]).map (fun x => Wt C w.heap.size x.1)).sum) := stackW_own (items := rest ++ [(p, d)]) (by rw [hl4]; exact hown)
          have hcap : rest.length + 1 ≤ cap4 := by
            rcases hown.2 with ⟨h, _⟩ | ⟨g, c, cur, h, _, _, h3, _⟩
            · simp at h
            · simp at h; omega
          have hrest : rest.length + 1 ≤ 300 := by have := HD.out.len; simp at this; omega
          unfold ptrV at ci1
          clear hown
          have hpss : p ∈ ss := (HD.out.st p (by simp)).1
          have J2 : JI w rec (wr.alloc (.cells #[ptrV p, .int .i64 d] 70)) := HJ2.out.alloc _
          have B2 : Blk (wr.alloc (.cells #[ptrV p, .int .i64 d] 70)) wr.heap.size #[ptrV p, .int .i64 d] 70 := Blk.new _ _ _
          have hsz2 := HJ2.out.size
          obtain ⟨fn, tmps, assign, body, hy, hR⟩ := HY.out p hpss d _ J2
          have HR : Hid _ := hR
          have HB2 : Hid (Blk (wr.alloc (.cells #[ptrV p, .int .i64 d] 70)) wr.heap.size #[ptrV p, .int .i64 d] 70) := B2
          unfold ptrV at hy
          clear hR J2 B2
          gi_wp2
          refine RoundIn.mono HR.out ?_
          rintro e W3 (⟨rfl, hA0, hK, hJ3⟩ | ⟨rfl, hA1, hX⟩)
          · have B3 : Blk W3 wr.heap.size #[ptrV p, .int .i64 d] 70 := hK.blk HB2.out (by omega)
            obtain ⟨sao, scap, hsub⟩ := HF.out.sub p hpss
            obtain ⟨ak, ck, hVk⟩ := own_shape (HF.out.row p hpss)
            have s1 : W3.cell? ⟨wr.heap.size, 0, none⟩ = some (.pointer (some ⟨p, 0, none⟩)) := B3.cell 0
            have s2 : W3.cell? ⟨p, 4, none⟩ = some (.slice ak (C p).length ck) := by rw [← hVk]; exact (hJ3.blk hsub).cell 4
            have O3 : W3.ownsRow (w.heap.size + 2) 70 2 (.slice (some ⟨g4, 0, none⟩) rest.length cap4) rest.length (rest.flatMap visCells) := by
              exact own_pop (hK.own (HO.out.alloc _) (by omega))
            have hcl : (C p).length ≤ 300 := Nat.le_trans (HF.out.small p hpss) h300
            have HS : Hid (DInv ss Cr C A (p :: vis) (rest.map Prod.fst ++ (C p).reverse)) := by
              have h1 := HD.out
              rw [List.map_append] at h1
              exact h1.step HF.out hA0
            have HO3 : Hid (W3.ownsRow (w.heap.size + 2) 70 2 (.slice (some ⟨g4, 0, none⟩) rest.length cap4) rest.length (rest.flatMap visCells)) := O3
            have HB3 : Hid (Blk W3 wr.heap.size #[ptrV p, .int .i64 d] 70) := B3
            have HJ3 : Hid (JI w rec W3) := hJ3
            have HSub : Hid (Blk w p (subArr sao (A p) scap (V p)) 58) := hsub
            have HV : Hid (V p = .slice ak (C p).length ck) := hVk
            clear hy HR hK O3 B3 hJ3 hsub hVk HB2 hA0
            gi_wp2
            have HN3 : Hid (∀ k, (Value.slice (some ⟨g4, 0, none⟩) rest.length cap4).ownBlock = some k → k ≠ wr.heap.size) := fun k hk => by
              have := ((HO.out.lt g4 rfl).2)
              simp [Value.ownBlock] at hk
              omega
            generalize hbv : wr.heap.size = bv at HB3 HN3 ⊢
            clear hbv
            gi_loopw [3, 6] (fun v i W4 => L3 w rec (rest.map Prod.fst) (C p) bv p d v i W4) (fun _ i _ => (intOf i + 1).toNat)
            case atStart => exact ⟨(C p).length, rest, Nat.le_refl _, rfl, by simp, HO3.out, HJ3.out, HB3.out, HN3.out⟩
            case round =>
              clear s1 s2 HO3 HJ3 HB3 ci1 ci2 HD HJ2 HO
              obtain ⟨j, its, hj, rfl, hit, hown, hJ4, hB4, hN4⟩ := hrel
              obtain ⟨ao5, cap5, rfl⟩ := own_shape hown
              have hil : its.length + j = rest.length + (C p).length := by have := congrArg List.length hit; simp at this; omega
              have s1 : wr.cell? ⟨bv, 0, none⟩ = some (.pointer (some ⟨p, 0, none⟩)) := hB4.cell 0
              have s1' : wr.cell? ⟨bv, 1, none⟩ = some (.int .i64 d) := hB4.cell 1
              have s2 : wr.cell? ⟨p, 4, none⟩ = some (.slice ak (C p).length ck) := by rw [← HV.out]; exact (hJ4.blk HSub.out).cell 4
              have hbr : w.heap.size + 2 ≤ wr.heap.size := hJ4.size
              have HO : Hid (wr.ownsRow (w.heap.size + 2) 70 2 (.slice ao5 its.length cap5) its.length (its.flatMap visCells)) := hown
              have HJ : Hid (JI w rec wr) := hJ4
              have HB : Hid (Blk wr bv #[ptrV p, .int .i64 d] 70) := hB4
              have HI : Hid (its.map Prod.fst = rest.map Prod.fst ++ ((C p).drop j).reverse) := hit
              have HN : Hid (∀ k, (Value.slice ao5 its.length cap5).ownBlock = some k → k ≠ bv) := hN4
              clear hown hJ4 hB4 hit hN4
              refine wpIn_wide.2 ?_
              by_cases hj0 : 0 < j
              · obtain ⟨gr, hgr⟩ : ∃ gr, ak = some ⟨gr, 0, none⟩ := by
                  have h1 := HF.out.row p hpss
                  obtain ⟨g, c, h⟩ := own_some h1 (by omega)
                  rw [HV.out] at h
                  simp at h
                  exact ⟨g, h.1⟩
                subst hgr
                obtain ⟨q, hq⟩ : ∃ q, (C p)[j - 1]? = some q := ⟨(C p)[j - 1]'(by omega), List.getElem?_eq_getElem (by omega)⟩
                have e3 : wr.cell? ⟨gr, j - 1, none⟩ = some (.pointer (some ⟨q, 0, none⟩)) := by
                  have h0 := HF.out.row p hpss
                  rw [HV.out] at h0
                  have h1 := (HJ.out.own h0).cells (g := gr) rfl (j - 1) (ptrV q) (by rw [List.getElem?_map, hq]; rfl)
                  rw [Addr.add_lit, Nat.zero_add] at h1
                  exact h1
                have n1 : ((j : Int) - 1).toNat = j - 1 := by omega
                have n2 : (0 : Int) ≤ (j : Int) - 1 := by omega
                have n3 : (j : Int) - 1 < ((C p).length : Int) := by omega
                have t1 : wr.drew.cell? ⟨bv, 0, none⟩ = some (.pointer (some ⟨p, 0, none⟩)) := s1
                have t2 : wr.drew.cell? ⟨bv, 1, none⟩ = some (.int .i64 d) := s1'
                have t3 : wr.drew.cell? ⟨p, 4, none⟩ = some (.slice (some ⟨gr, 0, none⟩) (C p).length ck) := s2
                have t4 : wr.drew.cell? ⟨gr, j - 1, none⟩ = some (.pointer (some ⟨q, 0, none⟩)) := e3
                have HOd : Hid (wr.drew.ownsRow (w.heap.size + 2) 70 2 (.slice ao5 its.length cap5) its.length (its.flatMap visCells)) := HO.out
                go_wp2
                go_region_law (refine step_append_own rfl (.tmp 66) (.tmp 79) 68 rfl (w.heap.size + 2) 70 i0 _ 2 16 Yba.underlying68 hi0 hz0 hz1 hz2 rfl (by decide) _ its.length (its.flatMap visCells) (by simp [Act.eval, Act.put]) (HOd.out.alloc _) ⟨wr.heap.size, 0, none⟩ 1 1 [ptrV q, .int .i64 (IntKind.i64.wrap (d + 1))] (by simp [Act.eval, Act.put]) rfl (cells_new wr.drew [ptrV q, .int .i64 (IntKind.i64.wrap (d + 1))] 70) (by intro u hu; simp at hu; rcases hu with rfl | rfl <;> rfl) (by unfold maxLen; omega) (by omega) (by simp; omega) ?_; intro v' w2 hown' hgrow hnil hat; have R : Hid (L3 w rec (rest.map Prod.fst) (C p) bv p d v' (.int .i64 ((j : Int) - 1 - 1)) w2) := l3_push hj hj0 hq HI.out HJ.out HB.out HN.out HO.out hown' hgrow hat; clear hown' hgrow hnil hat)
                all_goals go_wp2
                all_goals go_roundw
                all_goals first | exact R.out | (simp [intOf]; omega)
              · obtain rfl : j = 0 := by omega
                have n2 : ¬ (0 : Int) ≤ ((0 : Nat) : Int) - 1 := by omega
                have R : Hid (L2 w rec ss Cr C A (.slice ao5 its.length cap5) wr) := ⟨p :: vis, its, by rw [HI.out]; exact HS.out, HO.out, HJ.out⟩
                have M : Hid (stackW (Wt C w.heap.size) wr (.slice ao5 its.length cap5) < ((rest ++ [(p, d)]).map (fun x => Wt C w.heap.size x.1)).sum) := by
                  show _ < _
                  rw [stackW_own HO.out]
                  exact measure_lt HI.out HSub.out.lt (fun c hc => (HF.out.kids p hpss c hc).1)
                go_wp2
                go_roundw
                case rel => first | exact R.out | ((repeat apply Exists.intro); exact ⟨R.out, rfl⟩)
                case measure => rw [HM.out]; exact M.out
          · gi_wp2
            go_end0
            exact ⟨⟨_, rfl⟩, .inr ⟨hX, p, hpss, hA1⟩⟩
end Exa
end Go.Proofs.Ybulkcpu
