import Derived.Test.YbulkcpuLawA
namespace Go.Proofs.Ybulkcpu
open Go.RowKit Go.Shelf
set_option linter.unusedVariables false
set_option linter.unusedSimpArgs false

namespace Exa

/-- No list of keys is longer than 300. -/
def Short (W : World) (aK : Option Addr) (n : Nat) : Prop := ∀ i, i < n → ∀ b off a m c, aK = some ⟨b, off, none⟩ → W.cell? ⟨b, off + i, none⟩ = some (.slice a m c) → m ≤ 300

/-- Between two rounds of the check, and behind it. -/
def CL (W : World) (inA : Array Value) (aK : Option Addr) (n : Nat) (v2 i : Value) (wr : World) : Prop := ∃ k : Nat, k ≤ n ∧ v2 = .bool false ∧ i = .int .i64 k ∧ W.alloc (.cells inA 33) = wr ∧ Short W aK k
def CR (W : World) (inA : Array Value) (aK : Option Addr) (n : Nat) (v2 : Value) (wr : World) : Prop := v2 = .bool false ∧ W.alloc (.cells inA 33) = wr ∧ Short W aK n

set_option maxRecDepth 100000 in
set_option maxHeartbeats 1000000 in
theorem law_long (W : World) (ga : Int) (aK aE aS aP : Option Addr) (nK cK nE cE nS cS nP cP : Nat) (h : 300 < nK ∨ nK ≤ 300 ∧ (300 < nE ∨ nE ≤ 300 ∧ (300 < nS ∨ nS ≤ 300 ∧ 300 < nP))) :
    Calls Yba.prog 4 #[.agg #[.int .u8 ga, .slice aK nK cK, .slice aE nE cE, .slice aS nS cS, .slice aP nP cP]] W (LPost W) := by
  have HB0 : Hid (Below W.heap.size W (W.alloc (.cells #[.int .u8 ga, .slice aK nK cK, .slice aE nE cE, .slice aS nS cS, .slice aP nP cP] 33))) := (Below.refl _ _).alloc (Nat.le_refl _) _
  rcases h with h | ⟨h1, h | ⟨h2, h | ⟨h3, h⟩⟩⟩
  · have n1 : (300 : Int) < (nK : Int) := by omega
    go_enter Yba.func4, Yba.ntmps4
    go_wp2
    go_ret
    exact ⟨rfl, HB0.out⟩
  · have n1 : ¬ (300 : Int) < (nK : Int) := by omega
    have n2 : (300 : Int) < (nE : Int) := by omega
    go_enter Yba.func4, Yba.ntmps4
    go_wp2
    go_ret
    exact ⟨rfl, HB0.out⟩
  · have n1 : ¬ (300 : Int) < (nK : Int) := by omega
    have n2 : ¬ (300 : Int) < (nE : Int) := by omega
    have n3 : (300 : Int) < (nS : Int) := by omega
    go_enter Yba.func4, Yba.ntmps4
    go_wp2
    go_ret
    exact ⟨rfl, HB0.out⟩
  · have n1 : ¬ (300 : Int) < (nK : Int) := by omega
    have n2 : ¬ (300 : Int) < (nE : Int) := by omega
    have n3 : ¬ (300 : Int) < (nS : Int) := by omega
    have n4 : (300 : Int) < (nP : Int) := by omega
    go_enter Yba.func4, Yba.ntmps4
    go_wp2
    go_ret
    exact ⟨rfl, HB0.out⟩

theorem short_step {W : World} {bb off n7 k c7 : Nat} {a7 : Option Addr} (h : Short W (some ⟨bb, off, none⟩) k) (hx : W.cell? ⟨bb, off + k, none⟩ = some (.slice a7 n7 c7)) (h7 : n7 ≤ 300) : Short W (some ⟨bb, off, none⟩) (k + 1) := by
  intro i hi b o a m c he hc
  by_cases e : i = k
  · subst e
    simp at he
    obtain ⟨rfl, rfl⟩ := he
    rw [hx] at hc
    simp at hc
    omega
  · exact h i (by omega) b o a m c he hc

theorem gi_start {W w' : World} {inA : Array Value} {n cap : Nat} {ao : Option Addr} {b : Bool} (hb : b = true ↔ 0 < n) (hbel : Below (W.alloc (.cells inA 33)).heap.size (W.alloc (.cells inA 33)) w') :
    GI W.heap.size W.heap.size inA W w'.heap.size 0 0 0 0 b (w'.alloc (.cells #[.string ⟨#[]⟩, .bool true, .bool false, .slice ao n cap, .slice none 0 0, .slice none 0 0, .slice none 0 0, .slice none 0 0, .pointer none] 45)) := by
  have hs := hbel.size
  simp at hs
  have hI : Blk w' W.heap.size inA 33 := (Kp.of_below (H := []) hbel).block _ _ _ (Blk.new _ _ _) (by simp)
  refine ⟨ao, n, cap, .slice none 0 0, .slice none 0 0, .slice none 0 0, .slice none 0 0, [], [], [], [], [], fun _ => [], fun _ => .slice none 0 0, fun _ => 0, ⟨Blk.new _ _ _, ListAt.nil, ListAt.nil, Forest.nil _ _ _ _ _, ListAt.nil⟩, hI.alloc _, ?_, by omega, by simp, by simp, by simp, by simp, ?_⟩
  · exact ((((Below.refl _ _).alloc (Nat.le_refl _) _).trans (hbel.mono (by simp))).alloc (by omega) _)
  · rw [hb]
    simp [Says]

set_option maxRecDepth 100000 in
set_option maxHeartbeats 4000000 in
theorem law_go (W : World) (ga : Int) (aK aE aS aP : Option Addr) (nK cK nE cE nS cS nP cP : Nat) (hin : Inp W ga aK aE aS aP nK nE nS nP) :
    Calls Yba.prog 4 #[.agg #[.int .u8 ga, .slice aK nK cK, .slice aE nE cE, .slice aS nS cS, .slice aP nP cP]] W (LPost W) := by
  have HIN : Hid (Inp W ga aK aE aS aP nK nE nS nP) := hin
  have n1 : ¬ (300 : Int) < (nK : Int) := by have := hin.nK; omega
  have n2 : ¬ (300 : Int) < (nE : Int) := by have := hin.nE; omega
  have n3 : ¬ (300 : Int) < (nS : Int) := by have := hin.nS; omega
  have n4 : ¬ (300 : Int) < (nP : Int) := by have := hin.nP; omega
  have hnK : nK ≤ 300 := hin.nK
  have hg0 := hin.g0
  have hg1 := hin.g1
  have HK : Hid (Kss W aK nK) := hin.keys
  have B0 : Blk (W.alloc (.cells #[.int .u8 ga, .slice aK nK cK, .slice aE nE cE, .slice aS nS cS, .slice aP nP cP] 33)) W.heap.size #[.int .u8 ga, .slice aK nK cK, .slice aE nE cE, .slice aS nS cS, .slice aP nP cP] 33 := Blk.new _ _ _
  have HB0 : Hid (Below W.heap.size W (W.alloc (.cells #[.int .u8 ga, .slice aK nK cK, .slice aE nE cE, .slice aS nS cS, .slice aP nP cP] 33))) := (Below.refl _ _).alloc (Nat.le_refl _) _
  have c0 : (W.alloc (.cells #[.int .u8 ga, .slice aK nK cK, .slice aE nE cE, .slice aS nS cS, .slice aP nP cP] 33)).cell? ⟨W.heap.size, 0, none⟩ = some (.int .u8 ga) := B0.cell 0
  have c1 : (W.alloc (.cells #[.int .u8 ga, .slice aK nK cK, .slice aE nE cE, .slice aS nS cS, .slice aP nP cP] 33)).cell? ⟨W.heap.size, 1, none⟩ = some (.slice aK nK cK) := B0.cell 1
  clear hin B0
  go_enter Yba.func4, Yba.ntmps4
  go_upto_block 0 with fail
  go_cut [2, 3] (fun v2 _ wd => CR W #[.int .u8 ga, .slice aK nK cK, .slice aE nE cE, .slice aS nS cS, .slice aP nP cP] aK nK v2 wd)
  case first =>
    go_wp2
    go_loopw [2, 3] (fun v2 i wr => CL W #[.int .u8 ga, .slice aK nK cK, .slice aE nE cE, .slice aS nS cS, .slice aP nP cP] aK nK v2 i wr) (fun _ i _ => nK - (intOf i).toNat)
    case atStart => exact ⟨0, Nat.zero_le _, rfl, rfl, rfl, fun i hi => by omega⟩
    case round =>
      obtain ⟨k, hk, rfl, rfl, rfl, hsh⟩ := hrel
      have HSH : Hid (Short W aK k) := hsh
      clear hsh
      by_cases hlt : k < nK
      · obtain ⟨bb, off, a7, n7, c7, rfl, hbl, hx, hst⟩ := HK.out k hlt
        have cx : (W.alloc (.cells #[.int .u8 ga, .slice (some ⟨bb, off, none⟩) nK cK, .slice aE nE cE, .slice aS nS cS, .slice aP nP cP] 33)).cell? ⟨bb, off + k, none⟩ = some (.slice a7 n7 c7) := (HB0.out.cell (p := ⟨bb, off + k, none⟩) hbl).trans hx
        have HX : Hid (W.cell? ⟨bb, off + k, none⟩ = some (.slice a7 n7 c7)) := hx
        clear hx hst
        by_cases h7 : 300 < n7
        · have h7' : (300 : Int) < (n7 : Int) := by omega
          go_wp2
          go_ret
          exact ⟨rfl, HB0.out⟩
        · have h7' : ¬ (300 : Int) < (n7 : Int) := by omega
          go_wp2
          go_roundw
          case rel => exact ⟨k + 1, by omega, rfl, by simp, rfl, short_step HSH.out HX.out (by omega)⟩
          case measure => simp [intOf]; omega
      · obtain rfl : k = nK := by omega
        go_wp2
        go_meet
        case rel => exact ⟨rfl, rfl, HSH.out⟩
  case rest =>
    obtain ⟨rfl, rfl, hsh⟩ := hcut
    have HSH : Hid (Short W aK nK) := hsh
    clear hsh
    by_cases hgm : 0 < ga % 3
    · go_upto_region 9 with (go_at_call 7; refine (attrs_any ga _ hg0 hg1).mono ?_; rintro e w' ⟨m, cap', ao', hm0, rfl, hbel0⟩; have hm : Hid ((m : Int) = ga % 3) := hm0; have hbel : Hid (Below (W.alloc (.cells #[.int .u8 ga, .slice aK nK cK, .slice aE nE cE, .slice aS nS cS, .slice aP nP cP] 33)).heap.size (W.alloc (.cells #[.int .u8 ga, .slice aK nK cK, .slice aE nE cE, .slice aS nS cS, .slice aP nP cP] 33)) w') := hbel0; have q0 : (w'.alloc (.cells #[.string ⟨#[]⟩, .bool true, .bool false, .slice ao' m cap', .slice none 0 0, .slice none 0 0, .slice none 0 0, .slice none 0 0, .pointer none] 45)).cell? ⟨W.heap.size, 0, none⟩ = some (.int .u8 ga) := (((Kp.of_below (H := []) hbel0).block _ _ _ (Blk.new W #[.int .u8 ga, .slice aK nK cK, .slice aE nE cE, .slice aS nS cS, .slice aP nP cP] 33) (by simp)).alloc _).cell 0; clear hm0 hbel0)
      go_cut [5] (fun v wd => v = .bool true ∧ GI W.heap.size W.heap.size #[.int .u8 ga, .slice aK nK cK, .slice aE nE cE, .slice aS nS cS, .slice aP nP cP] W w'.heap.size 0 0 0 0 true wd)
      case first =>
        go_wp2
        go_meet
        case rel => exact ⟨rfl, gi_start ⟨fun _ => by have := hm.out; omega, fun _ => rfl⟩ hbel.out⟩
      case rest =>
        obtain ⟨rfl, hcut⟩ := hcut
        refine ‹∀ (a : Act) (w : World), Code.wp Yba.prog _ _ a w → _› _ _ ?_
        exact st5 W _ _ true ga aK aE aS aP nK cK nE cE nS cS nP cP _ _ _ _ _ _ _ _ _ _ _ _ _ _ _ _ _ _ _ _ _ _ _ _ _ _ _ _ _ _ _ _ _ _ _ _ _ _ _ _ _ _ _ _ _ _ _ _ _ _ _ _ _ _ _ _ _ _ _ _ _ _ _ _ _ _ _ _ _ _ _ _ _ _ _ _ _ _ _ _ _ _ _ _ _ _ _ _ _ _ _ _ _ _ _ _ _ _ _ _ _ _ _ _ _ _ _ _ _ _ _ _ _ _ _ _ _ _ _ _ _ _ _ _ _ _ _ _ _ _ _ _ _ _ _ _ _ _ _ _ _ _ _ _ _ _ _ _ _ _ _ _ _ _ _ _ _ _ _ _ _ _ _ _ _ _ _ _ _ _ _ _ _ _ _ _ _ _ _ _ _ _ _ _ _ _ _ _ _ _ _ _ _ _ _ _ _ _ _ _ _ _ _ _ _ _ _ _ _ _ _ _ _ _ _ _ _ _ _ _ _ _ _ _ _ _ _ _ _ _ _ _ _ _ _ _ _ _ _ HIN.out HSH.out hcut
    · go_upto_region 9 with (go_at_call 7; refine (attrs_any ga _ hg0 hg1).mono ?_; rintro e w' ⟨m, cap', ao', hm0, rfl, hbel0⟩; have hm : Hid ((m : Int) = ga % 3) := hm0; have hbel : Hid (Below (W.alloc (.cells #[.int .u8 ga, .slice aK nK cK, .slice aE nE cE, .slice aS nS cS, .slice aP nP cP] 33)).heap.size (W.alloc (.cells #[.int .u8 ga, .slice aK nK cK, .slice aE nE cE, .slice aS nS cS, .slice aP nP cP] 33)) w') := hbel0; have q0 : (w'.alloc (.cells #[.string ⟨#[]⟩, .bool true, .bool false, .slice ao' m cap', .slice none 0 0, .slice none 0 0, .slice none 0 0, .slice none 0 0, .pointer none] 45)).cell? ⟨W.heap.size, 0, none⟩ = some (.int .u8 ga) := (((Kp.of_below (H := []) hbel0).block _ _ _ (Blk.new W #[.int .u8 ga, .slice aK nK cK, .slice aE nE cE, .slice aS nS cS, .slice aP nP cP] 33) (by simp)).alloc _).cell 0; clear hm0 hbel0)
      go_cut [5] (fun v wd => v = .bool false ∧ GI W.heap.size W.heap.size #[.int .u8 ga, .slice aK nK cK, .slice aE nE cE, .slice aS nS cS, .slice aP nP cP] W w'.heap.size 0 0 0 0 false wd)
      case first =>
        go_wp2
        go_meet
        case rel => exact ⟨by congr 1; exact decide_eq_false (by omega), gi_start ⟨fun h => by simp at h, fun h => by have := hm.out; omega⟩ hbel.out⟩
      case rest =>
        obtain ⟨rfl, hcut⟩ := hcut
        refine ‹∀ (a : Act) (w : World), Code.wp Yba.prog _ _ a w → _› _ _ ?_
        exact st5 W _ _ false ga aK aE aS aP nK cK nE cE nS cS nP cP _ _ _ _ _ _ _ _ _ _ _ _ _ _ _ _ _ _ _ _ _ _ _ _ _ _ _ _ _ _ _ _ _ _ _ _ _ _ _ _ _ _ _ _ _ _ _ _ _ _ _ _ _ _ _ _ _ _ _ _ _ _ _ _ _ _ _ _ _ _ _ _ _ _ _ _ _ _ _ _ _ _ _ _ _ _ _ _ _ _ _ _ _ _ _ _ _ _ _ _ _ _ _ _ _ _ _ _ _ _ _ _ _ _ _ _ _ _ _ _ _ _ _ _ _ _ _ _ _ _ _ _ _ _ _ _ _ _ _ _ _ _ _ _ _ _ _ _ _ _ _ _ _ _ _ _ _ _ _ _ _ _ _ _ _ _ _ _ _ _ _ _ _ _ _ _ _ _ _ _ _ _ _ _ _ _ _ _ _ _ _ _ _ _ _ _ _ _ _ _ _ _ _ _ _ _ _ _ _ _ _ _ _ _ _ _ _ _ _ _ _ _ _ _ _ _ _ _ _ _ _ _ _ _ _ _ _ _ _ HIN.out HSH.out hcut

theorem law_any (W : World) (ga : Int) (aK aE aS aP : Option Addr) (nK cK nE cE nS cS nP cP : Nat) (h0 : 0 ≤ ga) (h1 : ga ≤ 255) (hK : Kss W aK nK) (hE : U8s W aE nE) (hS : Prs W aS nS) (hP : U8s W aP nP) :
    Calls Yba.prog 4 #[.agg #[.int .u8 ga, .slice aK nK cK, .slice aE nE cE, .slice aS nS cS, .slice aP nP cP]] W (LPost W) := by
  by_cases n1 : nK ≤ 300
  · by_cases n2 : nE ≤ 300
    · by_cases n3 : nS ≤ 300
      · by_cases n4 : nP ≤ 300
        · exact law_go W ga aK aE aS aP nK cK nE cE nS cS nP cP ⟨h0, h1, hK, hE, hS, hP, n1, n2, n3, n4⟩
        · exact law_long W ga aK aE aS aP nK cK nE cE nS cS nP cP (.inr ⟨n1, .inr ⟨n2, .inr ⟨n3, by omega⟩⟩⟩)
      · exact law_long W ga aK aE aS aP nK cK nE cE nS cS nP cP (.inr ⟨n1, .inr ⟨n2, .inl (by omega)⟩⟩)
    · exact law_long W ga aK aE aS aP nK cK nE cE nS cS nP cP (.inr ⟨n1, .inl (by omega)⟩)
  · exact law_long W ga aK aE aS aP nK cK nE cE nS cS nP cP (.inl (by omega))
end Exa
end Go.Proofs.Ybulkcpu
