import Derived.Test.YbulkcqiDoorProof
namespace Go.Proofs.YbulkcqiDoor
open Go

theorem lawS0177AWalkCard_holds : Rows.LawS0177AWalkCardSaid :=
  Claim7.holds_tied_plain_at .later [] [.data] true (true, "ddde3e57b481cf5be31da4fc4cad80dddd34a9d6d36eaf88624f92b7f10696c2") false
    Wlk.over (fun _ h => by cases h) (by kernel_rfl) (fun _ h => by cases h) lawS0177AWalk_row_tie rfl ⟨rfl, rfl⟩ (by kernel_rfl) rfl
    (fun f fn hf hfn => by
      obtain rfl : f = 3 := Option.some.inj ((show Ybad.prog.funcNamed "example.com/beforehand/beforehand/internal/runlog.LawS0177AWalk" = some 3 by kernel_rfl).symm.trans hf) |>.symm
      obtain rfl : fn = Ybad.f3 := (Option.some.inj (Ybad.func3.symm.trans hfn)).symm
      exact ⟨by kernel_rfl, fun j t ht => by
        rw [Ybad.params3] at ht
        have h5 : t = 22 ∨ t = 9 ∨ t = 23 ∨ t = 24 := by
          rcases j with _ | _ | _ | _ | _ | j
          · exact .inl (by simpa using ht.symm)
          · exact .inr (.inl (by simpa using ht.symm))
          · exact .inr (.inr (.inl (by simpa using ht.symm)))
          · exact .inr (.inr (.inl (by simpa using ht.symm)))
          · exact .inr (.inr (.inr (by simpa using ht.symm)))
          · simp at ht
        rcases h5 with rfl | rfl | rfl | rfl
        · exact (show Ybad.prog.wantsStandIn 22 = false by kernel_rfl)
        · exact (show Ybad.prog.wantsStandIn 9 = false by kernel_rfl)
        · exact (show Ybad.prog.wantsStandIn 23 = false by kernel_rfl)
        · exact (show Ybad.prog.wantsStandIn 24 = false by kernel_rfl)⟩)
    (by kernel_rfl)
end Go.Proofs.YbulkcqiDoor
