import Derived.Test.YbulkcqiDoorLoopA
import Derived.Maps.AppendAt
namespace Go.Proofs.YbulkcqiDoor
open Go.RowKit
set_option linter.unusedVariables false
set_option linter.unusedSimpArgs false

namespace Wlk
set_option maxRecDepth 100000 in
set_option maxHeartbeats 4000000 in
theorem loop_tail2 (B : Nat) (M : MC) (far far2 : Int) (V V2 : Nat → Nat → Bool) (S : Nat → Bool) (D : Nat → Nat) (w wc : World) (pos E last : Nat) (going : Bool) (u4 u5 u6 u7 u8 u9 u10 u11 u12 u15 u16 u17 u18 u19 u20 u21 u22 u23 u24 u25 u26 u27 u28 u29 u30 u31 u32 u33 u34 u35 u36 u37 u38 u39 u40 u41 u42 u43 u44 u45 u46 u47 u48 u49 u50 u51 u52 u53 u54 u55 u56 u57 u58 u59 u60 u61 u62 u63 u64 u65 u66 u67 u68 u69 u70 u71 u72 u73 u74 u75 u76 u77 u78 u79 u80 u81 u82 u83 u84 u85 u86 u87 u88 u89 u90 u91 u92 u93 u94 u95 u96 u97 u98 u99 u100 u101 u102 u103 u104 u105 u106 u107 u108 u109 u110 u111 u112 u113 u114 u115 u116 u117 u118 u119 u120 u121 u122 u123 u124 u125 u126 u127 u128 : Value)
    (hm : MatAt wc M far2 (.slice none 0 0) V2) (ht : Tabs wc M S) (hk : Kp [25, 49] w wc) (hb : Below B w wc) (hB : B ≤ wc.heap.size) (hB1 : B ≤ M.mb) (he : EndAt S D pos M.e E) (hs : Stops V pos E last going) (hf : far2 = if far < last then (last : Int) else far) (hV : V2 = marked V pos last going) :
    Code.wp Ybad.prog (seqTail 8 (Ybad.f5.body.getD .skip)) (bodyPost Ybad.prog Ybad.f5 (LoopPost B M far V S D pos w)) ⟨((.pointer (some ⟨M.mb, 0, none⟩) : Value) :: (.int .u32 0 : Value) :: (.int .u32 2 : Value) :: (.int .i64 pos : Value) :: u4 :: u5 :: u6 :: u7 :: u8 :: u9 :: u10 :: u11 :: u12 :: (.int .i64 last : Value) :: (.bool going : Value) :: u15 :: u16 :: u17 :: u18 :: u19 :: u20 :: u21 :: u22 :: u23 :: u24 :: u25 :: u26 :: u27 :: u28 :: u29 :: u30 :: u31 :: u32 :: u33 :: u34 :: u35 :: u36 :: u37 :: u38 :: u39 :: u40 :: u41 :: u42 :: u43 :: u44 :: u45 :: u46 :: u47 :: u48 :: u49 :: u50 :: u51 :: u52 :: u53 :: u54 :: u55 :: u56 :: u57 :: u58 :: u59 :: u60 :: u61 :: u62 :: u63 :: u64 :: u65 :: u66 :: u67 :: u68 :: u69 :: u70 :: u71 :: u72 :: u73 :: u74 :: u75 :: u76 :: u77 :: u78 :: u79 :: u80 :: u81 :: u82 :: u83 :: u84 :: u85 :: u86 :: u87 :: u88 :: u89 :: u90 :: u91 :: u92 :: u93 :: u94 :: u95 :: u96 :: u97 :: u98 :: u99 :: u100 :: u101 :: u102 :: u103 :: u104 :: u105 :: u106 :: u107 :: u108 :: u109 :: u110 :: u111 :: u112 :: u113 :: u114 :: u115 :: u116 :: u117 :: u118 :: u119 :: u120 :: u121 :: u122 :: u123 :: u124 :: u125 :: u126 :: u127 :: u128 :: []).toArray, []⟩ wc := by
  obtain ⟨i0, hi0, hz0, hz1, hz2⟩ := info_parts info54
  have hm1 : MatAt (wc.alloc (.cells #[.int .u32 1, .bool false, .int .i64 pos, .int .i64 last] 54)) M far2 (.slice none 0 0) V2 := hm.kp ((Kp.refl [] _).alloc _) (by decide) (by decide) (by decide) (by decide)
  have HL : Hid (∀ (w1 w2 : World) (v' : Value), Kp [] wc w1 → Below wc.heap.size wc w1 → w2.ownsRow wc.heap.size 54 4 v' (0 + 1) ([] ++ brCells pos last) → w1.grownBy w2 (Value.ownBlock (.slice none 0 0)) →
      ∃ sb sc, v' = .slice (some ⟨sb, 0, none⟩) 1 sc ∧ w2.cell? ⟨M.mb, 7, none⟩ = some (.slice none 0 0) ∧ w2.frozen? ⟨M.mb, 7, none⟩ = false ∧ LoopPost B M far V S D pos w (.returned (.tuple #[.int .i64 last, .bool going])) (w2.setCell ⟨M.mb, 7, none⟩ (.slice (some ⟨sb, 0, none⟩) 1 sc))) :=
    fun w1 w2 v' x y z u => loop_end hm hk hb hB hB1 he hs hf hV x y z u
  have c0 := hm.c0
  have c7 := hm.c7
  have p0 := hm.p0
  have g0 := hm.g0
  have ca := ht.arg
  have d0 : wc.drew.cell? _ = _ := c0
  have d7 : wc.drew.cell? _ = _ := c7
  have dp : wc.drew.cell? _ = _ := p0
  have dg : wc.drew.cell? _ = _ := g0
  have da : wc.drew.cell? _ = _ := ca
  have e7 : (wc.alloc (.cells #[.int .u32 1, .bool false, .int .i64 pos, .int .i64 last] 54)).drew.cell? ⟨M.mb, 7, none⟩ = some (.slice none 0 0) := hm1.c7
  have HKP : Hid (Kp [] wc (wc.alloc (.cells #[.int .u32 1, .bool false, .int .i64 pos, .int .i64 last] 54)).drew) := ⟨((Kp.refl [] wc).alloc _).size, ((Kp.refl [] wc).alloc _).block⟩
  have HBL : Hid (Below wc.heap.size wc (wc.alloc (.cells #[.int .u32 1, .bool false, .int .i64 pos, .int .i64 last] 54)).drew) := ((Below.refl _ wc).alloc (Nat.le_refl _) _).drew
  clear hm ht hk hb he hs hf hV hm1
  conv => arg 2; whnf
  go_wp2
  go_region_law (refine step_append_own rfl (.tmp 105) (.tmp 123) 46 rfl wc.heap.size 54 i0 _ 4 24 Ybad.underlying46 hi0 hz0 hz1 hz2 rfl (by decide) (.slice none 0 0) 0 [] (by simp [Act.eval, Act.put]) (World.ownsRow_nil _ _ _ _) ⟨wc.heap.size, 0, none⟩ 1 1 (brCells pos last) (by simp [Act.eval, Act.put]) rfl (cells_new wc.drew (brCells pos last) 54) (by intro u hu; simp [brCells] at hu; rcases hu with rfl | rfl | rfl | rfl <;> rfl) (by unfold maxLen; omega) (by omega) (by simp) ?_; intro v' w2 hown' hgrow hnil hat; obtain ⟨sb, sc, rfl, z1, z2, z3⟩ := HL.out _ w2 v' (by exact HKP.out) (by exact HBL.out) hown' hgrow; have R : Hid (LoopPost B M far V S D pos w (.returned (.tuple #[.int .i64 last, .bool going])) (w2.setCell ⟨M.mb, 7, none⟩ (.slice (some ⟨sb, 0, none⟩) 1 sc))) := z3; clear hown' hgrow hnil hat z3)
  all_goals go_wp2
  all_goals go_ret2
  all_goals exact R.out
end Wlk
end Go.Proofs.YbulkcqiDoor
