import Derived.Test.YbulkcpuRows
import Derived.WalkKit
import Derived.WalkSpells
import Derived.WalkLawsBesides
import Derived.Laws.BytesArg
import Derived.Deep.QuietTactic
import Derived.BigQuiet
namespace Go.Proofs.Ybulkcpu
open Go.RowKit
set_option linter.unusedVariables false
set_option linter.unusedSimpArgs false

namespace Skip

/-- The five white-space bytes. -/
def spB (c : Int) : Bool := c == 32 || c == 9 || c == 12 || c == 13 || c == 10

set_option maxHeartbeats 400000 in
theorem isSpace_any (c : Int) (w : World) : Calls Yba.prog 9 #[.int .u8 c] w fun e w' => e = .returned (.bool (spB c)) ∧ w = w' := by
  by_cases h1 : c = 32
  · subst h1; go_enter Yba.func9, Yba.ntmps9; go_wp2; go_ret; exact ⟨rfl, rfl⟩
  by_cases h2 : c = 9
  · subst h2; go_enter Yba.func9, Yba.ntmps9; go_wp2; go_ret; exact ⟨rfl, rfl⟩
  by_cases h3 : c = 12
  · subst h3; go_enter Yba.func9, Yba.ntmps9; go_wp2; go_ret; exact ⟨rfl, rfl⟩
  by_cases h4 : c = 13
  · subst h4; go_enter Yba.func9, Yba.ntmps9; go_wp2; go_ret; exact ⟨rfl, rfl⟩
  by_cases h5 : c = 10
  · subst h5; go_enter Yba.func9, Yba.ntmps9; go_wp2; go_ret; exact ⟨rfl, rfl⟩
  have g1 : (c == 32) = false := by simp [h1]
  have g2 : (c == 9) = false := by simp [h2]
  have g3 : (c == 12) = false := by simp [h3]
  have g4 : (c == 13) = false := by simp [h4]
  have g5 : (c == 10) = false := by simp [h5]
  have hs : spB c = false := by simp [spB, g1, g2, g3, g4, g5]
  clear h1 h2 h3 h4 h5
  go_enter Yba.func9, Yba.ntmps9
  go_wp2
  go_ret
  exact ⟨by simp [hs], rfl⟩

set_option maxHeartbeats 400000 in
theorem sp_any (c : Int) (w : World) : Calls Yba.prog 6 #[.int .u8 c] w fun e w' => e = .returned (.bool (spB c)) ∧ w = w' := by
  by_cases h1 : c = 32
  · subst h1; go_enter Yba.func6, Yba.ntmps6; go_wp2; go_ret; exact ⟨rfl, rfl⟩
  by_cases h2 : c = 9
  · subst h2; go_enter Yba.func6, Yba.ntmps6; go_wp2; go_ret; exact ⟨rfl, rfl⟩
  by_cases h3 : c = 12
  · subst h3; go_enter Yba.func6, Yba.ntmps6; go_wp2; go_ret; exact ⟨rfl, rfl⟩
  by_cases h4 : c = 13
  · subst h4; go_enter Yba.func6, Yba.ntmps6; go_wp2; go_ret; exact ⟨rfl, rfl⟩
  by_cases h5 : c = 10
  · subst h5; go_enter Yba.func6, Yba.ntmps6; go_wp2; go_ret; exact ⟨rfl, rfl⟩
  have g1 : (c == 32) = false := by simp [h1]
  have g2 : (c == 9) = false := by simp [h2]
  have g3 : (c == 12) = false := by simp [h3]
  have g4 : (c == 13) = false := by simp [h4]
  have g5 : (c == 10) = false := by simp [h5]
  have hs : spB c = false := by simp [spB, g1, g2, g3, g4, g5]
  clear h1 h2 h3 h4 h5
  go_enter Yba.func6, Yba.ntmps6
  go_wp2
  go_ret
  exact ⟨by simp [hs], rfl⟩

/-- What skipSpace answers. -/
structure Skips (s : ByteArray) (i r : Nat) : Prop where
  past : s.size ≤ i → r = i
  le : i ≤ r
  within : i ≤ s.size → r ≤ s.size
  all : ∀ k, i ≤ k → (h : k < r) → (hs : k < s.size) → spB (s[k].toNat : Int) = true
  stop : (h : r < s.size) → spB (s[r].toNat : Int) = false

set_option maxHeartbeats 400000 in
theorem skip_any (b i : Nat) (s : ByteArray) (w : World) (hi : i ≤ 2000) (hs : s.size ≤ 1024) (hc : w.cell? ⟨b, 0, none⟩ = some (.string s)) :
    Calls Yba.prog 5 #[.pointer (some ⟨b, 0, none⟩), .int .i64 i] w fun e w' => ∃ r : Nat, e = .returned (.int .i64 r) ∧ Skips s i r ∧ w = w' := by
  go_enter Yba.func5, Yba.ntmps5
  go_wp2
  go_loop [1] (fun v => ∃ k : Nat, v = .int .i64 k ∧ i ≤ k ∧ (i ≤ s.size → k ≤ s.size) ∧ (s.size ≤ i → k = i) ∧ Hid (∀ j, i ≤ j → j < k → (hs : j < s.size) → spB (s[j].toNat : Int) = true)) (fun v => s.size - (intOf v).toNat)
  case atStart => exact ⟨i, rfl, Nat.le_refl _, fun h => h, fun _ => rfl, fun j h1 h2 => by omega⟩
  case round =>
    obtain ⟨k, rfl, hk1, hk2, hk3, HK⟩ := hrel
    by_cases hlt : k < s.size
    · cases hsp : spB (s[k].toNat : Int)
      · go_wp2_with (go_at_call 9; refine (isSpace_any _ _).mono ?_; rintro e w' ⟨rfl, rfl⟩)
        go_ret
        exact ⟨k, rfl, ⟨by omega, hk1, hk2, fun j h1 h2 h3 => HK.out j h1 h2 h3, fun _ => hsp⟩, rfl⟩
      · have HSP : Hid (spB (s[k].toNat : Int) = true) := hsp
        go_wp2_with (go_at_call 9; refine (isSpace_any _ _).mono ?_; rintro e w' ⟨rfl, rfl⟩)
        go_round
        case rel =>
          refine ⟨k + 1, by go_num, by omega, fun _ => by omega, fun _ => by omega, fun j h1 h2 h3 => ?_⟩
          by_cases hjk : j < k
          · exact HK.out j h1 hjk h3
          · obtain rfl : j = k := by omega
            exact HSP.out
        case measure => simp [intOf]; omega
    · go_wp2
      go_ret
      exact ⟨k, rfl, ⟨hk3, hk1, hk2, fun j h1 h2 h3 => HK.out j h1 h2 h3, fun h => absurd h hlt⟩, rfl⟩

end Skip
end Go.Proofs.Ybulkcpu
