/- A part of a proof, joined by a program out of smaller texts (conditions: those that each theorem names). -/
import Derived.Test.YtkdialecadjedaaGreatDoorRows
import Derived.SevenTiedAt
import Derived.ChangeSlices
import Derived.ProofKit
import Derived.JoinedOf
namespace Go.Proofs.YtkdialecadjedaaGreatDoor
set_option linter.unusedVariables false
set_option linter.unusedSimpArgs false
set_option linter.unusedSectionVars false
set_option maxRecDepth 100000
set_option maxHeartbeats 8000000
open Go
open Go.ChangeShapes Go.WideShapes Go.ChangeAt Go.WideMaps Go.WideElems Go.RowKit
theorem rwFacts:joinedFacts Tryz.pinned.checked.prog 5 Tryz.f5 Rows.fnReadWriteSpec Rows.fnReadWriteRow=true:=by kernel_rfl
theorem rwWrap:Tryz.f5.isWrapper Tryz.pinned.checked.prog Rows.fnReadWriteRow.wrapper Rows.fnReadWriteRow.mainSum:=by
 unfold Func.isWrapper;first | (rw [if_pos (by decide +kernel)];kernel_rfl) | (rw [if_neg (by decide +kernel)];exact ⟨rfl,rfl⟩)
end Go.Proofs.YtkdialecadjedaaGreatDoor
