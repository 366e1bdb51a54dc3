/- What the condition on the listed variables gives, and a world that meets it (no statement of the seat is proved here). -/
import Derived.Test.YtkdialecadjedaaGreatDoorRows
import Derived.Test.YtkdialecadjedaaGreatDoorLawHw
import Derived.ProofKit
import Derived.LaidMore
import Derived.OpenShut
import Derived.Stop.Joined
import Derived.Stop.LaidErr
import Derived.Lib.SmallJoins
namespace Go.Proofs.YtkdialecadjedaaGreatDoor
set_option linter.unusedVariables false
set_option linter.unusedSimpArgs false
set_option linter.unusedSectionVars false
open Go.ChangeShapes Go.WideShapes Go.ChangeAt Go.WideMaps Go.WideElems Go.RowKit

theorem own : ownKnob Tryz.prog.godebug = none := by kernel_rfl
def laid3 : List (String × DataW Unit) := [("rtcppackets/pub/rtcp.errInvalidHeader", Rows.laid_rtcppackets_pub_rtcp_errInvalidHeader), ("rtcppackets/pub/rtcp.errPacketTooShort", Rows.laid_rtcppackets_pub_rtcp_errPacketTooShort), ("rtcppackets/pub/rtcp.errBadVersion", Rows.laid_rtcppackets_pub_rtcp_errBadVersion)]
theorem gE0 : Tryz.prog.globalNamed "rtcppackets/pub/rtcp.errInvalidHeader" = some 0 := by kernel_rfl
theorem gE1 : Tryz.prog.globalNamed "rtcppackets/pub/rtcp.errPacketTooShort" = some 1 := by kernel_rfl
theorem gE2 : Tryz.prog.globalNamed "rtcppackets/pub/rtcp.errBadVersion" = some 2 := by kernel_rfl
theorem tE0 : (Tryz.prog.globals[0]?).map (·.type) = some 90 := by kernel_rfl
theorem tE1 : (Tryz.prog.globals[1]?).map (·.type) = some 90 := by kernel_rfl
theorem tE2 : (Tryz.prog.globals[2]?).map (·.type) = some 90 := by kernel_rfl
theorem star : "*" ++ "errors.errorString" = "*errors.errorString" := by decide
theorem row296 (u : TypeId) (h : Tryz.prog.typeName? 3 u = some "*errors.errorString") : u = 296 :=
  typeName_ptr_named (nm := "errors.errorString") (by rw [star]; kernel_rfl) (by kernel_rfl) (by decide) u (by rw [star]; exact h)
theorem errs_of_laid {W : World} (h : laidMetH Tryz.prog laid3 W) : Errs W := by
  rw [MakeChecks.laidMetH_plain _ _ _ (by kernel_rfl)] at h
  obtain ⟨a0, _, h0, _, _, _⟩ := laid_sentinel h gE0 tE0 Tryz.underlying90 row296 Tryz.underlying296 Tryz.underlying342 rfl rfl Tryz.underlying9 (by kernel_rfl) (by kernel_rfl)
  obtain ⟨a1, _, h1, _, _, _⟩ := laid_sentinel h.tail gE1 tE1 Tryz.underlying90 row296 Tryz.underlying296 Tryz.underlying342 rfl rfl Tryz.underlying9 (by kernel_rfl) (by kernel_rfl)
  obtain ⟨a2, _, h2, _, _, _⟩ := laid_sentinel h.tail.tail gE2 tE2 Tryz.underlying90 row296 Tryz.underlying296 Tryz.underlying342 rfl rfl Tryz.underlying9 (by kernel_rfl) (by kernel_rfl)
  exact ⟨⟨_, _, by simpa using World.var?_cell gE0 h0 0⟩, ⟨_, _, by simpa using World.var?_cell gE1 h1 0⟩, ⟨_, _, by simpa using World.var?_cell gE2 h2 0⟩⟩
theorem door_met (os : Os) (args : Array Value) : laidMetH Tryz.prog laid3 ((World.doorLaid Tryz.prog 20000 os).forCall (fun _ _ => 0) ⟨#[], args, []⟩).memory :=
  laidMetH_of_parts3 (fuel := 8) (laidMet_of_run' 8 (by kernel_rfl) (by kernel_rfl)) (by kernel_rfl) (by kernel_rfl)
end Go.Proofs.YtkdialecadjedaaGreatDoor
