/- laws.FnRaw: the tied card. -/
import Derived.Test.YtkdialecadjedaaGreatDoorRowRaw
import Derived.Test.YtkdialecadjedaaGreatDoorCards
import Derived.Test.YtkdialecadjedaaGreatDoorTie
import Derived.SevenTiedAt
namespace Go.Proofs.YtkdialecadjedaaGreatDoor
set_option linter.unusedVariables false
set_option linter.unusedSimpArgs false
set_option linter.unusedSectionVars false
open Go

theorem fnRaw_card : Rows.FnRawCardSaid :=
  Claim7.holds_tied_plain_at .later [] [.sentinel, .sentinel, .sentinel] true (true, "b7ee73da011cb5a243ebb3ac6df3fcd27854d427de63dfd11919d9d779e961cf") true
    fnRaw_holds (fun _ h => by cases h) (by kernel_rfl) (fun _ h => by cases h) fnRaw_row_tie rfl ⟨rfl, rfl⟩ (by kernel_rfl) rfl
    (fun f fn hf hfn => by
      obtain rfl : f = 9 := Option.some.inj ((show Tryz.prog.funcNamed "rtcppackets/laws.FnRaw" = some 9 by kernel_rfl).symm.trans hf) |>.symm
      obtain rfl : fn = Tryz.f9 := (Option.some.inj (Tryz.func9.symm.trans hfn)).symm
      exact ⟨by kernel_rfl, fun j t ht => by
        rw [Tryz.params9] at ht
        have hm : t ∈ [22] := by simpa using Array.mem_of_getElem? ht
        have hall : ([22].all fun u => !Tryz.prog.wantsStandIn u) = true := by kernel_rfl
        exact (show Tryz.prog.wantsStandIn t = false by simpa using List.all_eq_true.1 hall t hm)⟩)
    (by kernel_rfl)
#print axioms fnRaw_card
end Go.Proofs.YtkdialecadjedaaGreatDoor
