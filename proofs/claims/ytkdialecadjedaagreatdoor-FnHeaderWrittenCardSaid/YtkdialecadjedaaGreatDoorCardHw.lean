/- laws.FnHeaderWritten: the tied card. -/
import Derived.Test.YtkdialecadjedaaGreatDoorRowHw
import Derived.Test.YtkdialecadjedaaGreatDoorCards
import Derived.Test.YtkdialecadjedaaGreatDoorTie
import Derived.SevenTiedAt
namespace Go.Proofs.YtkdialecadjedaaGreatDoor
set_option linter.unusedVariables false
set_option linter.unusedSimpArgs false
set_option linter.unusedSectionVars false
open Go

theorem fnHeaderWritten_card : Rows.FnHeaderWrittenCardSaid :=
  Claim7.holds_tied_plain_at .later [] [.sentinel, .sentinel, .sentinel] true (true, "b7ee73da011cb5a243ebb3ac6df3fcd27854d427de63dfd11919d9d779e961cf") true
    fnHeaderWritten_holds (fun _ h => by cases h) (by kernel_rfl) (fun _ h => by cases h) fnHeaderWritten_row_tie rfl ⟨rfl, rfl⟩ (by kernel_rfl) rfl
    (fun f fn hf hfn => by
      obtain rfl : f = 6 := Option.some.inj ((show Tryz.prog.funcNamed "rtcppackets/laws.FnHeaderWritten" = some 6 by kernel_rfl).symm.trans hf) |>.symm
      obtain rfl : fn = Tryz.f6 := (Option.some.inj (Tryz.func6.symm.trans hfn)).symm
      exact ⟨by kernel_rfl, fun j t ht => by
        rw [Tryz.params6] at ht
        have hm : t ∈ [42] := by simpa using Array.mem_of_getElem? ht
        have hall : ([42].all fun u => !Tryz.prog.wantsStandIn u) = true := by kernel_rfl
        exact (show Tryz.prog.wantsStandIn t = false by simpa using List.all_eq_true.1 hall t hm)⟩)
    (by kernel_rfl)
#print axioms fnHeaderWritten_card
end Go.Proofs.YtkdialecadjedaaGreatDoor
