import Derived.Test.YbulkcpuSkipWalks
namespace Go.Proofs.Ybulkcpu
open Go.RowKit
set_option linter.unusedVariables false
set_option linter.unusedSimpArgs false

namespace Skip
/-- WHAT THE WALK IS TOLD OF A SLICE OF INTEGERS THAT CAME IN. -/
def IsRow (k : IntKind) (w : World) (a : Option Addr) (len cap : Nat) (zs : List Int) : Prop :=
  (a = none ∧ len = 0 ∧ cap = 0 ∧ zs = []) ∨
  ∃ x, a = some x ∧ len ≤ cap ∧ cap ≤ maxLen ∧ zs.length = cap ∧ (∀ i, i < zs.length → w.cell? (x.add i) = some (.int k (zs.getD i 0))) ∧ ∀ n ∈ zs, (Lit.int k n).wf = true

theorem info5 : (Yba.prog.info? 5).map (fun i => (i.zero, i.size, i.bytes)) = some (some (.int .u8 0), 1, 1) := by kernel_rfl

theorem u8_bounds {a : Int} (h : (Lit.int .u8 a).wf = true) : 0 ≤ a ∧ a ≤ 255 := by
  simp only [Lit.wf, decide_eq_true_eq, Bool.and_eq_true] at h
  exact h

theorem row_at {w : World} {ao : Option Addr} {len cap : Nat} {zs : List Int} (h : IsRow .u8 w ao len cap zs) (hl : 0 < len) :
    ∃ b off, ao = some ⟨b, off, none⟩ ∧ b < w.heap.size ∧ ∀ i, i < len → ∃ z : Int, w.cell? ⟨b, off + i, none⟩ = some (.int .u8 z) ∧ 0 ≤ z ∧ z ≤ 255 := by
  rcases h with ⟨_, h, _⟩ | ⟨⟨b, off, sp⟩, rfl, hlc, _, hz, hc, hw⟩
  · omega
  · have h0 := hc 0 (by omega)
    obtain rfl : sp = none := by
      cases sp with
      | none => rfl
      | some s =>
        exfalso
        unfold World.cell? at h0
        split at h0
        · simp [Addr.add] at h0
        · cases h0
    refine ⟨b, off, rfl, ?_, fun i hi => ?_⟩
    · rw [Addr.add_lit] at h0
      rcases Nat.lt_or_ge b w.heap.size with h | h
      · exact h
      · simp [World.cell?, Array.getElem?_eq_none h] at h0
    · have h1 := hc i (by omega)
      rw [Addr.add_lit] at h1
      have hm : zs.getD i 0 ∈ zs := by
        rw [List.getD_eq_getElem?_getD, List.getElem?_eq_getElem (by omega)]
        simp
      exact ⟨_, h1, u8_bounds (hw _ hm)⟩

/-- The second loop's relation. -/
def KRel (i r : Nat) (v : Value) : Prop := ∃ k : Nat, v = .int .i64 k ∧ i ≤ k ∧ k ≤ r

theorem row_set {w : World} {base N len : Nat} {bs : List Int} (h : w.ownsRow base 5 1 (.slice (some ⟨N, 0, none⟩) len len) len (bs.map (Value.int .u8))) (k : Nat) (x : Int) :
    (w.setCell ⟨N, k, none⟩ (.int .u8 x)).ownsRow base 5 1 (.slice (some ⟨N, 0, none⟩) len len) len ((bs.set k x).map (Value.int .u8)) := by
  have := (h.stored k (.int .u8 x)).1
  rw [List.map_set]
  exact this

theorem set_bounds {bs : List Int} (h : ∀ b ∈ bs, 0 ≤ b ∧ b ≤ 255) (k : Nat) (x : Int) (h0 : 0 ≤ x) (h1 : x ≤ 255) : Hid (∀ b ∈ bs.set k x, 0 ≤ b ∧ b ≤ 255) := by
  intro b hb
  rcases List.mem_or_eq_of_mem_set hb with hb | rfl
  · exact h b hb
  · exact ⟨h0, h1⟩

theorem byte_le (c : UInt8) : ((c.toNat : Nat) : Int) ≤ 255 := by
  have := c.toNat_lt
  omega

set_option maxRecDepth 100000 in
set_option maxHeartbeats 2000000 in
theorem walk_go (ao : Option Addr) (len cap : Nat) (zs : List Int) (a1 a2 : Int) (w : World) (hrow : IsRow .u8 w ao len cap zs) (h10 : 0 ≤ a1) (h11 : a1 ≤ 65535) (hlen : len ≤ 1024) :
    Calls Yba.prog 3 #[.slice ao len cap, .int .u16 a1, .int .i64 a2] w fun e w' => e = .returned (.bool true) ∧ Below w.heap.size w w' := by
  obtain ⟨i0, hi, hz0, hz1, hz2⟩ := info_parts info5
  have HR : Hid _ := hrow
  clear hrow
  go_enter Yba.func3, Yba.ntmps3
  go_wp2_with (at_make; refine wpList_make_full _ rfl (.tmp 19) (.tmp 19) 22 rfl w.heap.size 5 i0 (.int .u8 0) 1 Yba.underlying22 hi hz0 hz1 .i64 .i64 (len : Int) (len : Int) len rfl rfl rfl rfl ?b2 ?b3 ?b4 ?_)
  case b2 => rw [hz2]; omega
  case b3 => unfold maxLen; omega
  case b4 => exact Nat.le_refl _
  intro w1 hown hgrow
  have hB1 : Below w.heap.size w w1 := (Below.refl _ _).grown hgrow (Nat.le_refl _) (fun _ h => by cases h)
  have HO : Hid (∃ bs : List Int, w1.ownsRow w.heap.size 5 1 (.slice (some ⟨w.heap.size, 0, none⟩) len len) len (bs.map (Value.int .u8)) ∧ ∀ b ∈ bs, 0 ≤ b ∧ b ≤ 255) := by
    refine ⟨List.replicate len 0, ?_, fun b hb => ?_⟩
    · have h1 : (madeCells #[Value.int .u8 0] len).toList = (List.replicate len (0 : Int)).map (Value.int .u8) := by
        rw [toList_madeCells_one, List.map_replicate]
      rw [h1] at hown
      exact hown
    · have := List.eq_of_mem_replicate hb
      omega
  clear hown hgrow hz0 hz1 hz2 hi
  go_wp2_with fail
  go_loopw [8, 9, 23] (fun _ _ vi wr => ∃ (k : Nat) (bs : List Int), k ≤ len ∧ vi = .int .i64 k ∧ wr.ownsRow w.heap.size 5 1 (.slice (some ⟨w.heap.size, 0, none⟩) len len) len (bs.map (Value.int .u8)) ∧ Hid (∀ b ∈ bs, 0 ≤ b ∧ b ≤ 255) ∧ Below w.heap.size w wr) (fun _ _ vi _ => len - (intOf vi).toNat)
  case atStart =>
    obtain ⟨bs, h1, h2⟩ := HO.out
    exact ⟨0, bs, Nat.zero_le _, rfl, h1, h2, hB1⟩
  case round =>
    obtain ⟨k, bs, hk, rfl, hown, hbs, hbel⟩ := hrel
    clear hB1 HO
    by_cases hlt : k < len
    · obtain ⟨b, off, rfl, hb, hcells⟩ := row_at HR.out (by omega)
      obtain ⟨z, hz, hz0, hz1⟩ := hcells k hlt
      have hzr : wr.cell? ⟨b, off + k, none⟩ = some (.int .u8 z) := (hbel.cell (by exact hb)).trans hz
      have hbl : bs.length = len := by have := hown.1; simpa using this
      obtain ⟨u, hu⟩ : ∃ u, wr.cell? ⟨w.heap.size, k, none⟩ = some u := by
        refine ⟨.int .u8 (bs[k]'(by omega)), ?_⟩
        rw [hown.cellAt k (by omega), List.getElem?_map, List.getElem?_eq_getElem (by omega)]
        rfl
      have hf := hown.frozenAt k
      have HW : Hid _ := hown
      have HBL : Hid _ := hbl
      clear hcells hz hown hbl
      go_wp2
      go_roundw
      case rel =>
        refine ⟨k + 1, _, by omega, by go_num, row_set HW.out k _, set_bounds hbs.out k _ (by omega) ?_, hbel.setCell (Nat.le_refl _) _⟩
        exact byte_le _
      case measure => simp [intOf]; omega
    · obtain rfl : k = len := by omega
      have hbl : bs.length = k := by have := hown.1; simpa using this
      have hconv := run_convert_bytes_arg (P := Yba.prog) wr 22 5 Yba.underlying22 Yba.underlying5 w.heap.size 0 k k bs hbl (fun i hi => by
        rw [Nat.zero_add, hown.cellAt i (by omega), List.getElem?_map, List.getElem?_eq_getElem (by omega)]
        simp [List.getD_eq_getElem?_getD, List.getElem?_eq_getElem (show i < bs.length by omega)]) 9 Yba.underlying9
      have hsz := strOfNums_size bs
      rw [hbl] at hsz
      generalize strOfNums bs = s at *
      subst hsz
      clear hown hbs hlt hk HR hbl
      go_wp2_with fail
      have hst0 : 0 ≤ a1 % ((s.size : Int) + 3) := Int.emod_nonneg _ (by omega)
      have hst1 : a1 % ((s.size : Int) + 3) < (s.size : Int) + 3 := Int.emod_lt_of_pos _ (by omega)
      generalize a1 % ((s.size : Int) + 3) = st at *
      obtain ⟨i, rfl⟩ := Int.eq_ofNat_of_zero_le hst0
      refine (skip_any wr.heap.size i s _ (by omega) (by omega) (by simp)).mono ?_
      rintro e w' ⟨r, rfl, hsk, rfl⟩
      have hB2 := hbel.alloc (o := .cells #[Value.string s, Value.int IntKind.i64 a2] 26) (hbel.size)
      have HB2 : Hid _ := hB2
      have HS : Hid _ := hsk
      obtain ⟨p1, p2, p3, p4, p5⟩ := hsk
      clear p4 p5 hbel hB2 hconv hlen
      by_cases hge : s.size ≤ i
      · obtain rfl : r = i := p1 hge
        clear p1 p2 p3
        go_wp2
        go_ret
        exact ⟨by simp, HB2.out⟩
      · have p3' := p3 (by omega)
        clear p1 p3
        have d1 : decide ((s.size : Int) ≤ (i : Int)) = false := by simp; omega
        have d2 : decide (r < i) = false := by simp; omega
        have d3 : decide (s.size < r) = false := by simp; omega
        go_wp2
        go_loop [14] (fun v => KRel i r v) (fun v => r - (intOf v).toNat)
        case atStart => exact ⟨i, rfl, Nat.le_refl _, p2⟩
        case round =>
          obtain ⟨k, rfl, hk1, hk2⟩ := hrel
          by_cases hkr : k < r
          · have hsp := HS.out.all k hk1 hkr (by omega)
            have hks : k < s.size := by omega
            go_wp2_with (go_at_call 6; refine (sp_any _ _).mono ?_; rintro e w' ⟨rfl, rfl⟩)
            go_round
            case rel => exact ⟨k + 1, by go_num, by omega, by omega⟩
            case measure => simp [intOf]; omega
          · obtain rfl : k = r := by omega
            by_cases hrl : k < s.size
            · have hsp := HS.out.stop hrl
              go_wp2_with (go_at_call 6; refine (sp_any _ _).mono ?_; rintro e w' ⟨rfl, rfl⟩)
              go_ret
              exact ⟨rfl, HB2.out⟩
            · go_wp2_with (go_at_call 6; refine (sp_any _ _).mono ?_; rintro e w' ⟨rfl, rfl⟩)
              go_ret
              exact ⟨rfl, HB2.out⟩

theorem walk_any (ao : Option Addr) (len cap : Nat) (zs : List Int) (a1 a2 : Int) (w : World) (hrow : IsRow .u8 w ao len cap zs) (h10 : 0 ≤ a1) (h11 : a1 ≤ 65535) :
    Calls Yba.prog 3 #[.slice ao len cap, .int .u16 a1, .int .i64 a2] w fun e w' => e = .returned (.bool true) ∧ Below w.heap.size w w' := by
  by_cases hlen : len ≤ 1024
  · exact walk_go ao len cap zs a1 a2 w hrow h10 h11 hlen
  · clear hrow
    have hl : (1024 : Int) < (len : Int) := by omega
    go_enter Yba.func3, Yba.ntmps3
    go_wp2
    go_ret
    exact ⟨rfl, Below.refl _ _⟩
end Skip
end Go.Proofs.Ybulkcpu
