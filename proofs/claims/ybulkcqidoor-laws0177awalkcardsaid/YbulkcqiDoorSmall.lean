import Derived.Test.YbulkcqiDoorRows
import Derived.WalkKit
import Derived.WalkSpells
import Derived.WalkLawsBesides
import Derived.Deep.QuietTactic
import Derived.BigQuiet
namespace Go.Proofs.YbulkcqiDoor
open Go.RowKit
set_option linter.unusedVariables false
set_option linter.unusedSimpArgs false

namespace Wlk
/-- c is an ASCII byte of s. -/
def InS (s : ByteArray) (c : Int) : Prop := c < 128 ∧ ∃ (i : Nat) (h : i < s.size), (s[i].toNat : Int) = c

/-- What zzs0177ain leaves. -/
def InPost (s : ByteArray) (c : Int) (w : World) (e : Ending) (w' : World) : Prop := ∃ b : Bool, e = .returned (.bool b) ∧ (b = true ↔ InS s c) ∧ w = w'

def InRel (s : ByteArray) (c : Int) (v : Value) : Prop := ∃ k : Nat, k ≤ s.size ∧ v = .int .i64 k ∧ ∀ (i : Nat) (h : i < s.size), i < k → (s[i].toNat : Int) ≠ c

set_option maxHeartbeats 400000 in
theorem in_any (s : ByteArray) (c : Int) (w : World) (hs : s.size ≤ 1024) : Calls Ybad.prog 4 #[.string s, .int .u8 c] w (InPost s c w) := by
  by_cases hc : (128 : Int) ≤ c
  · go_enter Ybad.func4, Ybad.ntmps4
    go_wp2
    go_ret
    exact ⟨false, rfl, ⟨fun h => by simp at h, fun h => absurd h.1 (by omega)⟩, rfl⟩
  · go_enter Ybad.func4, Ybad.ntmps4
    go_wp2
    go_loop [5] (fun v => InRel s c v) (fun v => s.size - (intOf v).toNat)
    case atStart => exact ⟨0, Nat.zero_le _, rfl, fun i h hi => by omega⟩
    case round =>
      obtain ⟨k, hk, rfl, hall⟩ := hrel
      have HA : Hid (∀ (i : Nat) (h : i < s.size), i < k → (s[i].toNat : Int) ≠ c) := hall
      clear hall
      by_cases hlt : k < s.size
      · by_cases he : (s[k].toNat : Int) = c
        · go_wp2
          go_ret
          exact ⟨true, rfl, ⟨fun _ => ⟨by omega, k, hlt, he⟩, fun _ => rfl⟩, rfl⟩
        · go_wp2
          have R : InRel s c (.int .i64 ((k : Int) + 1)) := ⟨k + 1, by omega, by simp, fun i h hi => by
            by_cases e : i = k
            · subst e; exact he
            · exact HA.out i h (by omega)⟩
          exact ⟨R, by simp [intOf]; omega⟩
      · go_wp2
        go_ret
        exact ⟨false, rfl, ⟨fun h => by simp at h, fun h => by obtain ⟨_, i, hi, h2⟩ := h; exact absurd h2 (HA.out i hi (by omega))⟩, rfl⟩
end Wlk
end Go.Proofs.YbulkcqiDoor
