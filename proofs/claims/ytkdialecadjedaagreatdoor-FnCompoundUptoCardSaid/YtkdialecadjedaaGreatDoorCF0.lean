/- A part of a proof, joined by a program out of smaller texts (conditions: those that each theorem names). -/
import Derived.Test.YtkdialecadjedaaGreatDoorRows
import Derived.SevenTiedAt
import Derived.ChangeSlices
import Derived.ProofKit
import Derived.JoinedOf
namespace Go.Proofs.YtkdialecadjedaaGreatDoor
set_option linter.unusedVariables false
set_option linter.unusedSimpArgs false
set_option linter.unusedSectionVars false
set_option maxRecDepth 100000
set_option maxHeartbeats 8000000
open Go IntKind
open Go.ChangeShapes Go.WideShapes Go.ChangeAt Go.WideMaps Go.WideElems Go.RowKit
def coFp0 (P:Program) (f:FuncId) (fn:Func) (s:ChangeSpec) (c:OpenClaim):Bool:=
 c.wf (OpenSpec.ofChange s) &&
 laidOutB P &&
 mapsRowed P &&
 fn.params.all (P.readableRec ·) &&
 namedTie P c.named s.vars &&
 (c.stops == []) &&
 (P.stops == []) &&
 (c.knobs == []) &&
 (P.stopKnobs == [])
def coFp1 (P:Program) (f:FuncId) (fn:Func) (s:ChangeSpec) (c:OpenClaim):Bool:=
 (c.inPlace == P.inPlace f) &&
 (c.unfollowed == P.unfollowed f)
def coFp2 (P:Program) (f:FuncId) (fn:Func) (s:ChangeSpec) (c:OpenClaim):Bool:=
 (c.recurses == P.recurses f) &&
 (c.named == P.varsNamed f)
def coFp3 (P:Program) (f:FuncId) (fn:Func) (s:ChangeSpec) (c:OpenClaim):Bool:=
 (c.maps == (fn.params.toList++s.plain.varTypes P).any (P.mapsRec ·)) &&
 (c.ifaces == (fn.params.toList++s.plain.varTypes P).any (P.ifacesRec ·)) &&
 (c.mapsOut == P.mapsAmong fn.resultTypes.toList) &&
 (c.loops == (fn.params.toList++s.plain.varTypes P).any (P.loopsFrom ·)) &&
 (c.wideKeys == (fn.params.toList++s.plain.varTypes P++fn.resultTypes.toList).any (P.wideKeysFrom ·)) &&
 s.vars.all (P.varReadable ·) &&
 fn.resultTypes.all (fun t=>P.readableRec t && decide (t < P.types.size)) &&
 (c.ifacesOut == fn.resultTypes.toList.any (P.ifacesRec ·)) &&
 (c.loopsOut == fn.resultTypes.toList.any (P.loopsFrom ·)) &&
 (c.plainKeys == P.plainKeys)
def coFp4 (P:Program) (f:FuncId) (fn:Func) (s:ChangeSpec) (c:OpenClaim):Bool:=
 c.shortTexts.isNone &&
 P.stopsHeard &&
 P.mayEnter &&
 (c.lifted == P.liftsFinal) &&
 (P.make == some c.make) &&
 (c.kinds == (if c.domain.isEmpty then [] else fn.params.toList.map fun t=>match P.underlying t with | some (.int k)=>some k | _=>none)) &&
 (c.pinned == c.pinnedBy) &&
 (c.veiled == (fn.params.toList++s.plain.varTypes P++fn.resultTypes.toList).any (P.veiledRec ·)) &&
 c.veiledFits P fn.params.toList (fn.params.toList++s.plain.varTypes P++fn.resultTypes.toList)
theorem coFp_all {P:Program} {f:FuncId} {fn:Func} {s:ChangeSpec} {c:OpenClaim} (h0:coFp0 P f fn s c=true) (h1:coFp1 P f fn s c=true) (h2:coFp2 P f fn s c=true) (h3:coFp3 P f fn s c=true) (h4:coFp4 P f fn s c=true):joinedFacts P f fn s c=true:=by
 unfold coFp0 coFp1 coFp2 coFp3 coFp4 at *
 simp only [Bool.and_eq_true] at *
 simp only [joinedFacts,Bool.and_eq_true]
 obtain ⟨⟨⟨⟨⟨⟨⟨⟨k0,k1⟩,k2⟩,k3⟩,k4⟩,k5⟩,k6⟩,k7⟩,k8⟩:=h0
 obtain ⟨k9,k10⟩:=h1
 obtain ⟨k11,k12⟩:=h2
 obtain ⟨⟨⟨⟨⟨⟨⟨⟨⟨k13,k14⟩,k15⟩,k16⟩,k17⟩,k18⟩,k19⟩,k20⟩,k21⟩,k22⟩:=h3
 obtain ⟨⟨⟨⟨⟨⟨⟨⟨k23,k24⟩,k25⟩,k26⟩,k27⟩,k28⟩,k29⟩,k30⟩,k31⟩:=h4
 exact ⟨⟨⟨⟨⟨⟨⟨⟨⟨⟨⟨⟨⟨⟨⟨⟨⟨⟨⟨⟨⟨⟨⟨⟨⟨⟨⟨⟨⟨⟨⟨k0,k1⟩,k2⟩,k3⟩,k4⟩,k5⟩,k6⟩,k7⟩,k8⟩,k9⟩,k10⟩,k11⟩,k12⟩,k13⟩,k14⟩,k15⟩,k16⟩,k17⟩,k18⟩,k19⟩,k20⟩,k21⟩,k22⟩,k23⟩,k24⟩,k25⟩,k26⟩,k27⟩,k28⟩,k29⟩,k30⟩,k31⟩
theorem coFx0:coFp0 Tryz.pinned.checked.prog 10 Tryz.f10 (Rows.OpenSpec.upto Rows.fnCompoundSpec).bare Rows.fnCompoundUptoRow=true:=by kernel_rfl
theorem coFx1:coFp1 Tryz.pinned.checked.prog 10 Tryz.f10 (Rows.OpenSpec.upto Rows.fnCompoundSpec).bare Rows.fnCompoundUptoRow=true:=by kernel_rfl
theorem coFx2:coFp2 Tryz.pinned.checked.prog 10 Tryz.f10 (Rows.OpenSpec.upto Rows.fnCompoundSpec).bare Rows.fnCompoundUptoRow=true:=by kernel_rfl
theorem coFx3:coFp3 Tryz.pinned.checked.prog 10 Tryz.f10 (Rows.OpenSpec.upto Rows.fnCompoundSpec).bare Rows.fnCompoundUptoRow=true:=by kernel_rfl
theorem coFx4:coFp4 Tryz.pinned.checked.prog 10 Tryz.f10 (Rows.OpenSpec.upto Rows.fnCompoundSpec).bare Rows.fnCompoundUptoRow=true:=by kernel_rfl
theorem coFacts:joinedFacts Tryz.pinned.checked.prog 10 Tryz.f10 (Rows.OpenSpec.upto Rows.fnCompoundSpec).bare Rows.fnCompoundUptoRow=true:=coFp_all coFx0 coFx1 coFx2 coFx3 coFx4
theorem coWrap:Tryz.f10.isWrapper Tryz.pinned.checked.prog Rows.fnCompoundUptoRow.wrapper Rows.fnCompoundUptoRow.mainSum:=by
 unfold Func.isWrapper;rw [if_neg (by decide +kernel)];exact ⟨rfl,rfl⟩
end Go.Proofs.YtkdialecadjedaaGreatDoor
