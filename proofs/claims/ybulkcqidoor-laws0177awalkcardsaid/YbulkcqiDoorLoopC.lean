import Derived.Test.YbulkcqiDoorLoopB
namespace Go.Proofs.YbulkcqiDoor
open Go.RowKit
set_option linter.unusedVariables false
set_option linter.unusedSimpArgs false

namespace Wlk
set_option maxRecDepth 100000 in
set_option maxHeartbeats 2000000 in
theorem loop_tail1 (B : Nat) (M : MC) (far : Int) (V : Nat → Nat → Bool) (S : Nat → Bool) (D : Nat → Nat) (w wc : World) (pos E last : Nat) (going : Bool) (u4 u5 u6 u7 u8 u9 u10 u11 u12 u15 u16 u17 u18 u19 u20 u21 u22 u23 u24 u25 u26 u27 u28 u29 u30 u31 u32 u33 u34 u35 u36 u37 u38 u39 u40 u41 u42 u43 u44 u45 u46 u47 u48 u49 u50 u51 u52 u53 u54 u55 u56 u57 u58 u59 u60 u61 u62 u63 u64 u65 u66 u67 u68 u69 u70 u71 u72 u73 u74 u75 u76 u77 u78 u79 u80 u81 u82 u83 u84 u85 u86 u87 u88 u89 u90 u91 u92 u93 u94 u95 u96 u97 u98 u99 u100 u101 u102 u103 u104 u105 u106 u107 u108 u109 u110 u111 u112 u113 u114 u115 u116 u117 u118 u119 u120 u121 u122 u123 u124 u125 u126 u127 u128 : Value)
    (hm : MatAt wc M far (.slice none 0 0) V) (ht : Tabs wc M S) (hb : Below w.heap.size w wc) (hB : B ≤ w.heap.size) (hB1 : B ≤ M.mb) (hB2 : B ≤ M.wb) (he : EndAt S D pos M.e E) (hs : Stops V pos E last going) (hen : M.e ≤ M.n) (hn : M.n ≤ 1024) :
    Code.wp Ybad.prog (seqTail 6 (Ybad.f5.body.getD .skip)) (bodyPost Ybad.prog Ybad.f5 (LoopPost B M far V S D pos w)) ⟨((.pointer (some ⟨M.mb, 0, none⟩) : Value) :: (.int .u32 0 : Value) :: (.int .u32 2 : Value) :: (.int .i64 pos : Value) :: u4 :: u5 :: u6 :: u7 :: u8 :: u9 :: u10 :: u11 :: u12 :: (.int .i64 last : Value) :: (.bool going : Value) :: u15 :: u16 :: u17 :: u18 :: u19 :: u20 :: u21 :: u22 :: u23 :: u24 :: u25 :: u26 :: u27 :: u28 :: u29 :: u30 :: u31 :: u32 :: u33 :: u34 :: u35 :: u36 :: u37 :: u38 :: u39 :: u40 :: u41 :: u42 :: u43 :: u44 :: u45 :: u46 :: u47 :: u48 :: u49 :: u50 :: u51 :: u52 :: u53 :: u54 :: u55 :: u56 :: u57 :: u58 :: u59 :: u60 :: u61 :: u62 :: u63 :: u64 :: u65 :: u66 :: u67 :: u68 :: u69 :: u70 :: u71 :: u72 :: u73 :: u74 :: u75 :: u76 :: u77 :: u78 :: u79 :: u80 :: u81 :: u82 :: u83 :: u84 :: u85 :: u86 :: u87 :: u88 :: u89 :: u90 :: u91 :: u92 :: u93 :: u94 :: u95 :: u96 :: u97 :: u98 :: u99 :: u100 :: u101 :: u102 :: u103 :: u104 :: u105 :: u106 :: u107 :: u108 :: u109 :: u110 :: u111 :: u112 :: u113 :: u114 :: u115 :: u116 :: u117 :: u118 :: u119 :: u120 :: u121 :: u122 :: u123 :: u124 :: u125 :: u126 :: u127 :: u128 :: []).toArray, []⟩ wc := by
  have hle : last ≤ M.n := by have := hs.2.1; have := he.2.1; omega
  have hpl : pos ≤ last := hs.1
  have HM : Hid (MatAt wc M far (.slice none 0 0) V) := hm
  have HTb : Hid (Tabs wc M S) := ht
  have HB : Hid (Below w.heap.size w wc) := hb
  have HE : Hid (EndAt S D pos M.e E) := he
  have HS : Hid (Stops V pos E last going) := hs
  have HC1 : Hid (Calls Ybad.prog 7 #[.pointer (some ⟨M.mb, 0, none⟩), .int .u32 0, .int .i64 ((pos : Int) + 1), .int .i64 last] wc (SPost B M far (.slice none 0 0) V 0 (pos + 1) last wc)) := by
    have h := set_any B M far (.slice none 0 0) V wc hm hB1 hB2 0 (pos + 1) last (by decide) (by omega) (by omega) (by omega) hn
    have h' : Calls Ybad.prog 7 #[.pointer (some ⟨M.mb, 0, none⟩), .int .u32 0, .int .i64 ((pos : Int) + 1), .int .i64 last] wc (SPost B M far (.slice none 0 0) V 0 (pos + 1) last wc) := by simpa using h
    exact h'
  obtain ⟨far1, hfar1⟩ : ∃ f, f = if far < last then (last : Int) else far := ⟨_, rfl⟩
  have hf1 : (last : Int) ≤ far1 := by rw [hfar1]; split <;> omega
  have HFA : Hid (far1 = if far < last then (last : Int) else far) := hfar1
  clear hm ht hb he hs hfar1
  conv => arg 2; whnf
  go_upto_if 89 with (go_at_call 7; refine HC1.out.mono ?_; rintro e w1 ⟨⟨v1, rfl⟩, hm1, hk1, hb1⟩; (have HM1 : Hid (MatAt w1 M far1 (.slice none 0 0) (markR V 0 (pos + 1) (last + 1))) := by rw [HFA.out]; exact hm1); (have HK1 : Hid (Kp [25, 49] wc w1) := hk1); (have HB1 : Hid (Below B wc w1) := hb1); clear hm1 hk1 hb1)
  go_cut [13] (fun v wx => v = .int .i64 last ∧ MatAt wx M far1 (.slice none 0 0) (marked V pos last going) ∧ Kp [25, 49] wc wx ∧ Below B wc wx)
  case first =>
    cases going with
    | true =>
      have HC2 : Hid (Calls Ybad.prog 7 #[.pointer (some ⟨M.mb, 0, none⟩), .int .u32 2, .int .i64 pos, .int .i64 ((last : Int) - 1)] w1 (SPost B M far1 (.slice none 0 0) (markR V 0 (pos + 1) (last + 1)) 2 pos ((last : Int) - 1) w1)) :=
        set_any B M far1 (.slice none 0 0) _ w1 HM1.out hB1 hB2 2 pos ((last : Int) - 1) (by decide) (by omega) (by omega) (by omega) hn
      go_wp2_with (go_at_call 7; refine HC2.out.mono ?_; rintro e w2 ⟨⟨v2, rfl⟩, hm2, hk2, hb2⟩)
      go_meet
      case rel =>
        refine ⟨rfl, ?_, HK1.out.trans hk2, HB1.out.trans hb2⟩
        rw [if_neg (by omega), show ((last : Int) - 1 + 1).toNat = last by omega] at hm2
        exact hm2
    | false =>
      have HC2 : Hid (Calls Ybad.prog 7 #[.pointer (some ⟨M.mb, 0, none⟩), .int .u32 2, .int .i64 pos, .int .i64 (last : Int)] w1 (SPost B M far1 (.slice none 0 0) (markR V 0 (pos + 1) (last + 1)) 2 pos (last : Int) w1)) :=
        set_any B M far1 (.slice none 0 0) _ w1 HM1.out hB1 hB2 2 pos (last : Int) (by decide) (by omega) (by omega) (by omega) hn
      go_wp2_with (go_at_call 7; refine HC2.out.mono ?_; rintro e w2 ⟨⟨v2, rfl⟩, hm2, hk2, hb2⟩)
      go_meet
      case rel =>
        refine ⟨rfl, ?_, HK1.out.trans hk2, HB1.out.trans hb2⟩
        rw [if_neg (by omega), show ((last : Int) + 1).toNat = last + 1 by omega] at hm2
        exact hm2
  case rest =>
    obtain ⟨rfl, hm2, hk2, hb2⟩ := hcut
    refine ‹∀ (a : Act) (w : World), Code.wp Ybad.prog _ _ a w → _› _ _ ?_
    exact loop_tail2 B M far far1 V _ S D w _ pos E last going _ _ _ _ _ _ _ _ _ _ _ _ _ _ _ _ _ _ _ _ _ _ _ _ _ _ _ _ _ _ _ _ _ _ _ _ _ _ _ _ _ _ _ _ _ _ _ _ _ _ _ _ _ _ _ _ _ _ _ _ _ _ _ _ _ _ _ _ _ _ _ _ _ _ _ _ _ _ _ _ _ _ _ _ _ _ _ _ _ _ _ _ _ _ _ _ _ _ _ _ _ _ _ _ _ _ _ _ _ _ _ _ _ _ _ _ _ _ _ _ _ _ _ hm2 (HTb.out.kp hk2 (by decide) (by decide)) ((Kp.of_below HB.out).trans hk2) ((HB.out.mono hB).trans hb2) (by have := hb2.size; have := HB.out.size; omega) hB1 HE.out HS.out HFA.out rfl
end Wlk
end Go.Proofs.YbulkcqiDoor
