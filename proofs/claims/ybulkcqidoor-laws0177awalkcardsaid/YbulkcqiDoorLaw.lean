import Derived.Test.YbulkcqiDoorStA
namespace Go.Proofs.YbulkcqiDoor
open Go.RowKit
set_option linter.unusedVariables false
set_option linter.unusedSimpArgs false

namespace Wlk
set_option maxRecDepth 100000 in
set_option maxHeartbeats 4000000 in
theorem law_any (W : World) (s : ByteArray) (D : Nat → Nat) (aD aK : Option Addr) (n cD nK cK : Nat) (Kf : Nat → Nat) (ps cs : Nat) (hps : ps ≤ 65535) (hcs : cs ≤ 65535) (hi : Inp W aD n D aK nK Kf) :
    Calls Ybad.prog 3 #[.slice aD n cD, .string s, .int .u16 ps, .int .u16 cs, .slice aK nK cK] W (LPost W) := by
  have HR : Hid (LPost W (.returned (.bool true)) W) := ⟨rfl, Below.refl _ _⟩
  have HI : Hid (Inp W aD n D aK nK Kf) := hi
  clear hi
  by_cases h1 : n ≤ 1024
  · by_cases h2 : s.size ≤ 1024
    · by_cases h3 : nK ≤ 1024
      · obtain ⟨pos, hpos⟩ : ∃ pos : Nat, (ps : Int) % ((n : Int) + 1) = (pos : Int) := ⟨ps % (n + 1), by simp⟩
        have hpn : pos ≤ n := by have := Int.emod_lt_of_pos (ps : Int) (show (0 : Int) < (n : Int) + 1 by omega); omega
        obtain ⟨q, hq⟩ : ∃ q : Nat, (cs : Int) % ((n : Int) - (pos : Int) + 1) = (q : Int) := ⟨((cs : Int) % ((n : Int) - (pos : Int) + 1)).toNat, by have := Int.emod_nonneg (cs : Int) (show ((n : Int) - (pos : Int) + 1) ≠ 0 by omega); omega⟩
        have hqn : q ≤ n - pos := by have := Int.emod_lt_of_pos (cs : Int) (show (0 : Int) < (n : Int) - (pos : Int) + 1 by omega); omega
        go_enter Ybad.func3, Ybad.ntmps3
        go_upto_region 6 with fail
        go_cut [12, 13, 14] (fun p e v wx => p = .int .i64 pos ∧ e = .int .i64 ((n - q : Nat) : Int) ∧ ∃ sb t, v = .pointer (some ⟨sb, 0, none⟩) ∧ Blk wx sb #[.int .u64 0, .int .u64 0] t ∧ W.heap.size ≤ sb ∧ Below W.heap.size W wx)
        case first =>
          go_wp2
          go_meet
          case rel => exact ⟨by first | rfl | rw [hpos], by rw [show ((n - q : Nat) : Int) = (n : Int) - q by omega], _, _, rfl, Blk.new _ _ _, Nat.le_refl _, (Below.refl _ _).alloc (Nat.le_refl _) _⟩
        case rest =>
          obtain ⟨rfl, rfl, sb, t, rfl, hset, hsb, hb⟩ := hcut
          refine ‹∀ (a : Act) (w : World), Code.wp Ybad.prog _ _ a w → _› _ _ ?_
          exact stA W _ s D aD aK n cD nK cK Kf pos (n - q) sb t _ _ _ _ _ _ _ _ _ _ _ _ _ _ _ _ _ _ _ _ _ _ _ _ _ _ _ _ _ _ _ _ _ _ _ _ _ _ _ _ _ _ _ _ _ _ _ _ _ _ _ _ _ _ _ _ _ _ _ _ _ _ _ _ _ _ _ _ _ _ _ _ _ _ _ _ _ _ _ _ _ _ _ _ _ _ _ _ _ _ _ _ _ _ _ _ _ _ _ _ _ _ _ _ _ _ _ _ _ _ _ _ _ _ _ _ _ _ _ _ _ _ _ _ _ _ _ _ _ _ _ _ _ _ _ _ _ _ _ _ _ _ _ _ _ _ _ _ _ _ _ _ _ _ _ _ _ _ _ _ _ _ _ _ _ _ _ _ _ _ _ _ _ _ _ _ _ _ _ _ _ _ _ _ _ _ _ _ _ _ _ _ _ _ _ _ _ _ _ _ _ _ _ _ _ _ _ _ _ _ _ _ _ _ _ _ _ _ _ _ _ _ _ _ _ _ _ _ _ _ _ _ _ _ _ _ _ _ _ _ _ _ _ _ _ _ _ _ _ _ _ _ _ _ _ _ _ _ _ _ _ _ _ _ _ _ _ _ _ _ _ _ _ _ _ _ _ _ _ _ _ _ _ _ _ _ _ _ _ _ _ _ _ _ _ _ _ _ _ _ _ _ _ _ _ _ _ _ _ _ _ _ _ _ _ _ _ _ _ _ _ _ _ _ _ _ _ _ _ _ _ _ _ _ _ _ _ _ _ _ _ _ _ _ _ _ _ _ _ _ _ _ _ _ _ hset hsb hb HI.out h2 (by omega) (by omega) h1 h3
      · go_enter Ybad.func3, Ybad.ntmps3
        go_wp2
        go_ret
        exact HR.out
    · go_enter Ybad.func3, Ybad.ntmps3
      go_wp2
      go_ret
      exact HR.out
  · go_enter Ybad.func3, Ybad.ntmps3
    go_wp2
    go_ret
    exact HR.out
end Wlk
end Go.Proofs.YbulkcqiDoor
