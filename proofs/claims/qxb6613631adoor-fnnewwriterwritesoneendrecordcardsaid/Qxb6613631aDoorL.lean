import Derived.Test.Qxb6613631aDoorK
import Derived.Test.Qxb6613631aDoorTie
import Derived.Test.Qxb6613631aDoorCards
import Derived.SevenTiedAt
namespace Go.Proofs.Qxb6613631aDoor
open Go

theorem fnNewWriterWritesOneEndRecordCard_proved : Rows.FnNewWriterWritesOneEndRecordCardSaid :=
  Claim7.holds_tied_plain_at .later [] [.sentinel] true (true, "aca7f0aa22706acb968b966535a2d7978161d8313967a51c7f3c55ba6441645f") true
    row5_proved (fun _ h => by cases h) (by kernel_rfl) (fun _ h => by cases h) fnNewWriterWritesOneEndRecord_row_tie rfl ⟨rfl, rfl⟩ (by kernel_rfl) rfl
    (fun f fn hf hfn => by
      obtain rfl : f = 5 := Option.some.inj ((show Tryd.prog.funcNamed Rows.fnNewWriterWritesOneEndRecordRow.func = some 5 by kernel_rfl).symm.trans hf) |>.symm
      obtain rfl : fn = Tryd.f5 := (Option.some.inj (Tryd.func5.symm.trans hfn)).symm
      exact ⟨by kernel_rfl, fun j t ht => by
        rw [Tryd.params5] at ht
        have h3 : t = 25 := by
          rcases j with _ | j
          · simpa using ht.symm
          · simp at ht
        subst h3
        exact (show Tryd.prog.wantsStandIn 25 = false by kernel_rfl)⟩)
    (by kernel_rfl)
#print axioms fnNewWriterWritesOneEndRecordCard_proved
end Go.Proofs.Qxb6613631aDoor
