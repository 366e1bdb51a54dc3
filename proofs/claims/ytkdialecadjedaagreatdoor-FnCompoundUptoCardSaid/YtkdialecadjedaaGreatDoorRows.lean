/-
  NARROWER THAN 'FOR EVERY INPUT', by the rows' own cells (each row's printed sentence says how): FnRead: laid · FnBack: laid · FnReadWrite: laid · FnHeaderWritten: laid · FnHeader: laid · FnOtherKind: laid · FnRaw: laid · FnCompound: laid.
  DERIVED. THE GIVEN ROWS OF THIS SEAT. 8 by the template 'for every input the law returns true; each argument reads behind the call as it read before'; 0 by the template 'total and deterministic' (their statements: YtkdialecadjedaaGreatDoorTotals.lean).
  GIVEN WITH THE SEED: the statements are not yours to turn. If you find one false, say at which input.
  Laid BY PROGRAM, IN A SANDBOX (cutbox-rows.mjs): the forced cells as the released guide's own fill.sh prints them over the translation 941e8fdd56bf4564… (all of the seat's roots in one cut). By AI agents, Wed Nov 11 2026. No macro, syntax, notation, axiom, sorry.
-/
import Derived.Test.YtkdialecadjedaaGreatDoorChecked
import GoSem.Claim
import GoSem.ClaimJoined
import GoSem.ClaimMapViews
import Derived.JoinedTies
import Derived.KernelRfl
namespace Go.Proofs.YtkdialecadjedaaGreatDoor
/- THE CELL 'sum', in the pinned program and in every row, IS THE sha256 OF THE DUMP (.gsa) THAT YtkdialecadjedaaGreatDoorProg.lean LOADS. Nothing in Lean hashes anything: it is a label: what it is worth is what the hold of that sum in a sandbox is worth. -/
noncomputable def Tryz.pinned : Pinned := { name := "ytkdialecadjedaagreatdoor", sum := "941e8fdd56bf4564e9baede904b57ef5cbd409759d4eca57f0b13d9489106c49", checked := Tryz.checked }
namespace Rows
def none {H : Type} : Left H := { results := [], args := [] }

/- WHAT THE LISTED PACKAGE-LEVEL VARIABLES READ AS WHEN THE CALL BEGINS. Each datum BY PROGRAM (the guide's laid-datum.mjs) off the statement by which the dump's own 'gosem.cut.vars' lays the variable. In a bare row this is a premise. The card (YtkdialecadjedaaGreatDoorCards.lean) ties it to the program's text. -/
def laid_rtcppackets_pub_rtcp_errInvalidHeader {H : Type} : DataW H := .iface "*errors.errorString" (.ptr (.agg [.lit (.string [114, 116, 99, 112, 58, 32, 105, 110, 118, 97, 108, 105, 100, 32, 104, 101, 97, 100, 101, 114])]))
def laid_rtcppackets_pub_rtcp_errPacketTooShort {H : Type} : DataW H := .iface "*errors.errorString" (.ptr (.agg [.lit (.string [114, 116, 99, 112, 58, 32, 112, 97, 99, 107, 101, 116, 32, 116, 111, 111, 32, 115, 104, 111, 114, 116])]))
def laid_rtcppackets_pub_rtcp_errBadVersion {H : Type} : DataW H := .iface "*errors.errorString" (.ptr (.agg [.lit (.string [114, 116, 99, 112, 58, 32, 105, 110, 118, 97, 108, 105, 100, 32, 112, 97, 99, 107, 101, 116, 32, 118, 101, 114, 115, 105, 111, 110])]))
def laid_rtcppackets_pub_rtcp_errEmptyCompound {H : Type} : DataW H := .iface "*errors.errorString" (.ptr (.agg [.lit (.string [114, 116, 99, 112, 58, 32, 101, 109, 112, 116, 121, 32, 99, 111, 109, 112, 111, 117, 110, 100, 32, 112, 97, 99, 107, 101, 116])]))
def laid_rtcppackets_pub_rtcp_errBadFirstPacket {H : Type} : DataW H := .iface "*errors.errorString" (.ptr (.agg [.lit (.string [114, 116, 99, 112, 58, 32, 102, 105, 114, 115, 116, 32, 112, 97, 99, 107, 101, 116, 32, 105, 110, 32, 99, 111, 109, 112, 111, 117, 110, 100, 32, 109, 117, 115, 116, 32, 98, 101, 32, 83, 82, 32, 111, 114, 32, 82, 82])]))
def laid_rtcppackets_pub_rtcp_errMissingCNAME {H : Type} : DataW H := .iface "*errors.errorString" (.ptr (.agg [.lit (.string [114, 116, 99, 112, 58, 32, 99, 111, 109, 112, 111, 117, 110, 100, 32, 109, 105, 115, 115, 105, 110, 103, 32, 83, 111, 117, 114, 99, 101, 68, 101, 115, 99, 114, 105, 112, 116, 105, 111, 110, 32, 119, 105, 116, 104, 32, 67, 78, 65, 77, 69])]))
def laid_rtcppackets_pub_rtcp_errPacketBeforeCNAME {H : Type} : DataW H := .iface "*errors.errorString" (.ptr (.agg [.lit (.string [114, 116, 99, 112, 58, 32, 102, 101, 101, 100, 98, 97, 99, 107, 32, 112, 97, 99, 107, 101, 116, 32, 115, 101, 101, 110, 32, 98, 101, 102, 111, 114, 101, 32, 67, 78, 65, 77, 69])]))

/-- 'laws.FnRead': WHATEVER THE INPUT: true; the input reads as it did. -/
def fnReadSpec : ChangeSpec := { name := "fnRead", fn := fun _ => fun
  | [d] => { results := [.lit (.bool true)], args := [d] }
  | _ => none }
def fnReadRow : OpenClaim := { program := "ytkdialecadjedaagreatdoor", sum := "941e8fdd56bf4564e9baede904b57ef5cbd409759d4eca57f0b13d9489106c49", func := "rtcppackets/laws.FnRead", spec := "fnRead", inPlace := ["math.Float32bits", "math.Float32frombits"], unfollowed := true, recurses := true, named := ["rtcppackets/pub/rtcp.errInvalidHeader", "rtcppackets/pub/rtcp.errPacketTooShort", "rtcppackets/pub/rtcp.errBadVersion"], apart := false, laid := [("rtcppackets/pub/rtcp.errInvalidHeader", laid_rtcppackets_pub_rtcp_errInvalidHeader), ("rtcppackets/pub/rtcp.errPacketTooShort", laid_rtcppackets_pub_rtcp_errPacketTooShort), ("rtcppackets/pub/rtcp.errBadVersion", laid_rtcppackets_pub_rtcp_errBadVersion)] }
def FnReadSaid : Prop := fnReadRow.holds Tryz.pinned (OpenSpec.ofChange fnReadSpec)

/-- ITS FALSE NEIGHBOUR: 'it returns false'. Refute it at one input. -/
def fnReadWrong : ChangeSpec := { name := "fnRead", fn := fun _ => fun
  | [d] => { results := [.lit (.bool false)], args := [d] }
  | _ => none }
def FnReadWrongFalsely : Prop := fnReadRow.holds Tryz.pinned (OpenSpec.ofChange fnReadWrong)

/-- 'laws.FnBack': WHATEVER THE INPUT: true; the input reads as it did. -/
def fnBackSpec : ChangeSpec := { name := "fnBack", fn := fun _ => fun
  | [d] => { results := [.lit (.bool true)], args := [d] }
  | _ => none }
def fnBackRow : OpenClaim := { program := "ytkdialecadjedaagreatdoor", sum := "941e8fdd56bf4564e9baede904b57ef5cbd409759d4eca57f0b13d9489106c49", func := "rtcppackets/laws.FnBack", spec := "fnBack", inPlace := ["math.Float32frombits", "math.Float32bits"], unfollowed := true, recurses := true, named := ["rtcppackets/pub/rtcp.errInvalidHeader", "rtcppackets/pub/rtcp.errPacketTooShort", "rtcppackets/pub/rtcp.errBadVersion"], apart := false, laid := [("rtcppackets/pub/rtcp.errInvalidHeader", laid_rtcppackets_pub_rtcp_errInvalidHeader), ("rtcppackets/pub/rtcp.errPacketTooShort", laid_rtcppackets_pub_rtcp_errPacketTooShort), ("rtcppackets/pub/rtcp.errBadVersion", laid_rtcppackets_pub_rtcp_errBadVersion)] }
def FnBackSaid : Prop := fnBackRow.holds Tryz.pinned (OpenSpec.ofChange fnBackSpec)

/-- ITS FALSE NEIGHBOUR: 'it returns false'. Refute it at one input. -/
def fnBackWrong : ChangeSpec := { name := "fnBack", fn := fun _ => fun
  | [d] => { results := [.lit (.bool false)], args := [d] }
  | _ => none }
def FnBackWrongFalsely : Prop := fnBackRow.holds Tryz.pinned (OpenSpec.ofChange fnBackWrong)

/-- 'laws.FnReadWrite': WHATEVER THE INPUT: true; the input reads as it did. -/
def fnReadWriteSpec : ChangeSpec := { name := "fnReadWrite", fn := fun _ => fun
  | [d] => { results := [.lit (.bool true)], args := [d] }
  | _ => none }
def fnReadWriteRow : OpenClaim := { program := "ytkdialecadjedaagreatdoor", sum := "941e8fdd56bf4564e9baede904b57ef5cbd409759d4eca57f0b13d9489106c49", func := "rtcppackets/laws.FnReadWrite", spec := "fnReadWrite", inPlace := ["math.Float32bits", "math.Float32frombits"], unfollowed := true, recurses := true, named := ["rtcppackets/pub/rtcp.errInvalidHeader", "rtcppackets/pub/rtcp.errPacketTooShort", "rtcppackets/pub/rtcp.errBadVersion"], apart := false, laid := [("rtcppackets/pub/rtcp.errInvalidHeader", laid_rtcppackets_pub_rtcp_errInvalidHeader), ("rtcppackets/pub/rtcp.errPacketTooShort", laid_rtcppackets_pub_rtcp_errPacketTooShort), ("rtcppackets/pub/rtcp.errBadVersion", laid_rtcppackets_pub_rtcp_errBadVersion)] }
def FnReadWriteSaid : Prop := fnReadWriteRow.holds Tryz.pinned (OpenSpec.ofChange fnReadWriteSpec)

/-- ITS FALSE NEIGHBOUR: 'it returns false'. Refute it at one input. -/
def fnReadWriteWrong : ChangeSpec := { name := "fnReadWrite", fn := fun _ => fun
  | [d] => { results := [.lit (.bool false)], args := [d] }
  | _ => none }
def FnReadWriteWrongFalsely : Prop := fnReadWriteRow.holds Tryz.pinned (OpenSpec.ofChange fnReadWriteWrong)

/-- 'laws.FnHeaderWritten': WHATEVER THE INPUT: true; the input reads as it did. -/
def fnHeaderWrittenSpec : ChangeSpec := { name := "fnHeaderWritten", fn := fun _ => fun
  | [d] => { results := [.lit (.bool true)], args := [d] }
  | _ => none }
def fnHeaderWrittenRow : OpenClaim := { program := "ytkdialecadjedaagreatdoor", sum := "941e8fdd56bf4564e9baede904b57ef5cbd409759d4eca57f0b13d9489106c49", func := "rtcppackets/laws.FnHeaderWritten", spec := "fnHeaderWritten", inPlace := ["math.Float32frombits", "math.Float32bits"], unfollowed := true, recurses := true, named := ["rtcppackets/pub/rtcp.errInvalidHeader", "rtcppackets/pub/rtcp.errPacketTooShort", "rtcppackets/pub/rtcp.errBadVersion"], apart := false, laid := [("rtcppackets/pub/rtcp.errInvalidHeader", laid_rtcppackets_pub_rtcp_errInvalidHeader), ("rtcppackets/pub/rtcp.errPacketTooShort", laid_rtcppackets_pub_rtcp_errPacketTooShort), ("rtcppackets/pub/rtcp.errBadVersion", laid_rtcppackets_pub_rtcp_errBadVersion)] }
def FnHeaderWrittenSaid : Prop := fnHeaderWrittenRow.holds Tryz.pinned (OpenSpec.ofChange fnHeaderWrittenSpec)

/-- ITS FALSE NEIGHBOUR: 'it returns false'. Refute it at one input. -/
def fnHeaderWrittenWrong : ChangeSpec := { name := "fnHeaderWritten", fn := fun _ => fun
  | [d] => { results := [.lit (.bool false)], args := [d] }
  | _ => none }
def FnHeaderWrittenWrongFalsely : Prop := fnHeaderWrittenRow.holds Tryz.pinned (OpenSpec.ofChange fnHeaderWrittenWrong)

/-- 'laws.FnHeader': WHATEVER THE INPUT: true; the input reads as it did. -/
def fnHeaderSpec : ChangeSpec := { name := "fnHeader", fn := fun _ => fun
  | [d] => { results := [.lit (.bool true)], args := [d] }
  | _ => none }
def fnHeaderRow : OpenClaim := { program := "ytkdialecadjedaagreatdoor", sum := "941e8fdd56bf4564e9baede904b57ef5cbd409759d4eca57f0b13d9489106c49", func := "rtcppackets/laws.FnHeader", spec := "fnHeader", inPlace := ["math.Float32frombits", "math.Float32bits"], unfollowed := true, recurses := true, named := ["rtcppackets/pub/rtcp.errPacketTooShort", "rtcppackets/pub/rtcp.errBadVersion", "rtcppackets/pub/rtcp.errInvalidHeader"], apart := false, laid := [("rtcppackets/pub/rtcp.errInvalidHeader", laid_rtcppackets_pub_rtcp_errInvalidHeader), ("rtcppackets/pub/rtcp.errPacketTooShort", laid_rtcppackets_pub_rtcp_errPacketTooShort), ("rtcppackets/pub/rtcp.errBadVersion", laid_rtcppackets_pub_rtcp_errBadVersion)] }
def FnHeaderSaid : Prop := fnHeaderRow.holds Tryz.pinned (OpenSpec.ofChange fnHeaderSpec)

/-- ITS FALSE NEIGHBOUR: 'it returns false'. Refute it at one input. -/
def fnHeaderWrong : ChangeSpec := { name := "fnHeader", fn := fun _ => fun
  | [d] => { results := [.lit (.bool false)], args := [d] }
  | _ => none }
def FnHeaderWrongFalsely : Prop := fnHeaderRow.holds Tryz.pinned (OpenSpec.ofChange fnHeaderWrong)

/-- 'laws.FnOtherKind': WHATEVER THE INPUT: true; the input reads as it did. -/
def fnOtherKindSpec : ChangeSpec := { name := "fnOtherKind", fn := fun _ => fun
  | [d1, d2] => { results := [.lit (.bool true)], args := [d1, d2] }
  | _ => none }
def fnOtherKindRow : OpenClaim := { program := "ytkdialecadjedaagreatdoor", sum := "941e8fdd56bf4564e9baede904b57ef5cbd409759d4eca57f0b13d9489106c49", func := "rtcppackets/laws.FnOtherKind", spec := "fnOtherKind", inPlace := ["math.Float32bits", "math.Float32frombits"], unfollowed := true, recurses := true, named := ["rtcppackets/pub/rtcp.errInvalidHeader", "rtcppackets/pub/rtcp.errPacketTooShort", "rtcppackets/pub/rtcp.errBadVersion"], apart := false, laid := [("rtcppackets/pub/rtcp.errInvalidHeader", laid_rtcppackets_pub_rtcp_errInvalidHeader), ("rtcppackets/pub/rtcp.errPacketTooShort", laid_rtcppackets_pub_rtcp_errPacketTooShort), ("rtcppackets/pub/rtcp.errBadVersion", laid_rtcppackets_pub_rtcp_errBadVersion)] }
def FnOtherKindSaid : Prop := fnOtherKindRow.holds Tryz.pinned (OpenSpec.ofChange fnOtherKindSpec)

/-- ITS FALSE NEIGHBOUR: 'it returns false'. Refute it at one input. -/
def fnOtherKindWrong : ChangeSpec := { name := "fnOtherKind", fn := fun _ => fun
  | [d1, d2] => { results := [.lit (.bool false)], args := [d1, d2] }
  | _ => none }
def FnOtherKindWrongFalsely : Prop := fnOtherKindRow.holds Tryz.pinned (OpenSpec.ofChange fnOtherKindWrong)

/-- 'laws.FnRaw': WHATEVER THE INPUT: true; the input reads as it did. -/
def fnRawSpec : ChangeSpec := { name := "fnRaw", fn := fun _ => fun
  | [d] => { results := [.lit (.bool true)], args := [d] }
  | _ => none }
def fnRawRow : OpenClaim := { program := "ytkdialecadjedaagreatdoor", sum := "941e8fdd56bf4564e9baede904b57ef5cbd409759d4eca57f0b13d9489106c49", func := "rtcppackets/laws.FnRaw", spec := "fnRaw", inPlace := ["math.Float32frombits", "math.Float32bits"], unfollowed := true, recurses := true, named := ["rtcppackets/pub/rtcp.errPacketTooShort", "rtcppackets/pub/rtcp.errInvalidHeader", "rtcppackets/pub/rtcp.errBadVersion"], apart := false, laid := [("rtcppackets/pub/rtcp.errInvalidHeader", laid_rtcppackets_pub_rtcp_errInvalidHeader), ("rtcppackets/pub/rtcp.errPacketTooShort", laid_rtcppackets_pub_rtcp_errPacketTooShort), ("rtcppackets/pub/rtcp.errBadVersion", laid_rtcppackets_pub_rtcp_errBadVersion)] }
def FnRawSaid : Prop := fnRawRow.holds Tryz.pinned (OpenSpec.ofChange fnRawSpec)

/-- ITS FALSE NEIGHBOUR: 'it returns false'. Refute it at one input. -/
def fnRawWrong : ChangeSpec := { name := "fnRaw", fn := fun _ => fun
  | [d] => { results := [.lit (.bool false)], args := [d] }
  | _ => none }
def FnRawWrongFalsely : Prop := fnRawRow.holds Tryz.pinned (OpenSpec.ofChange fnRawWrong)

/-- 'laws.FnCompound': WHATEVER THE INPUT: true; the input reads as it did. -/
def fnCompoundSpec : ChangeSpec := { name := "fnCompound", fn := fun _ => fun
  | [d] => { results := [.lit (.bool true)], args := [d] }
  | _ => none }
def fnCompoundRow : OpenClaim := { program := "ytkdialecadjedaagreatdoor", sum := "941e8fdd56bf4564e9baede904b57ef5cbd409759d4eca57f0b13d9489106c49", func := "rtcppackets/laws.FnCompound", spec := "fnCompound", inPlace := ["math.Float32frombits", "math.Float32bits"], unfollowed := true, recurses := true, named := ["rtcppackets/pub/rtcp.errEmptyCompound", "rtcppackets/pub/rtcp.errPacketBeforeCNAME", "rtcppackets/pub/rtcp.errMissingCNAME", "rtcppackets/pub/rtcp.errBadFirstPacket", "rtcppackets/pub/rtcp.errPacketTooShort", "rtcppackets/pub/rtcp.errBadVersion", "rtcppackets/pub/rtcp.errInvalidHeader"], apart := false, laid := [("rtcppackets/pub/rtcp.errInvalidHeader", laid_rtcppackets_pub_rtcp_errInvalidHeader), ("rtcppackets/pub/rtcp.errEmptyCompound", laid_rtcppackets_pub_rtcp_errEmptyCompound), ("rtcppackets/pub/rtcp.errBadFirstPacket", laid_rtcppackets_pub_rtcp_errBadFirstPacket), ("rtcppackets/pub/rtcp.errMissingCNAME", laid_rtcppackets_pub_rtcp_errMissingCNAME), ("rtcppackets/pub/rtcp.errPacketBeforeCNAME", laid_rtcppackets_pub_rtcp_errPacketBeforeCNAME), ("rtcppackets/pub/rtcp.errPacketTooShort", laid_rtcppackets_pub_rtcp_errPacketTooShort), ("rtcppackets/pub/rtcp.errBadVersion", laid_rtcppackets_pub_rtcp_errBadVersion)] }
def FnCompoundSaid : Prop := fnCompoundRow.holds Tryz.pinned (OpenSpec.ofChange fnCompoundSpec)

/-- ITS FALSE NEIGHBOUR: 'it returns false'. Refute it at one input. -/
def fnCompoundWrong : ChangeSpec := { name := "fnCompound", fn := fun _ => fun
  | [d] => { results := [.lit (.bool false)], args := [d] }
  | _ => none }
def FnCompoundWrongFalsely : Prop := fnCompoundRow.holds Tryz.pinned (OpenSpec.ofChange fnCompoundWrong)

/- THE SECOND FORM. 'bulk': how many values and letters a reading holds, each counted each time it is reached (what is shared counts as often as it is met; a slice's spare places count too). A statement '..UptoSaid' is the law's where the arguments, and the package variables that the reading takes, are together of bulk at most 1048576: NARROWER than '..Said'. Prove '..Said' where nothing that the law and all that it calls make is longer than what came in: it says more and counts as full. Else prove '..UptoSaid'. A law counts once. -/
mutual
def uptoBulk {H : Type} : DataW H → Nat
  | .lit (.string bytes) => bytes.length + 1
  | .lit _ => 1
  | .nil => 1
  | .ptr d => uptoBulk d + 1
  | .slice elems spare => uptoBulkAll elems + uptoBulkAll spare + 1
  | .agg parts => uptoBulkAll parts + 1
  | .iface _ d => uptoBulk d + 1
  | .map entries => uptoBulkEntries entries + 1
  | .held _ => 1
def uptoBulkAll {H : Type} : List (DataW H) → Nat
  | [] => 0
  | d :: r => uptoBulk d + uptoBulkAll r
def uptoBulkEntries {H : Type} : List (Lit × DataW H) → Nat
  | [] => 0
  | x :: r => uptoBulkEntry x + uptoBulkEntries r
def uptoBulkEntry {H : Type} : Lit × DataW H → Nat
  | (.string bytes, d) => bytes.length + uptoBulk d + 1
  | (_, d) => uptoBulk d + 1
 end
def uptoSmall : (H : Type) → List (DataW H) → Bool := fun _ ds => decide (uptoBulkAll ds ≤ 1048576)
def OpenSpec.upto (s : _root_.Go.ChangeSpec) : _root_.Go.OpenSpec := { _root_.Go.OpenSpec.ofChange s with cond := some uptoSmall }

/-- 'laws.FnRead', WHERE WHAT IT READS IS OF BULK AT MOST 1048576: true; the input reads as it did. -/
def fnReadUptoRow : OpenClaim := { program := "ytkdialecadjedaagreatdoor", sum := "941e8fdd56bf4564e9baede904b57ef5cbd409759d4eca57f0b13d9489106c49", func := "rtcppackets/laws.FnRead", spec := "fnRead", inPlace := ["math.Float32bits", "math.Float32frombits"], unfollowed := true, recurses := true, named := ["rtcppackets/pub/rtcp.errInvalidHeader", "rtcppackets/pub/rtcp.errPacketTooShort", "rtcppackets/pub/rtcp.errBadVersion"], apart := false, laid := [("rtcppackets/pub/rtcp.errInvalidHeader", laid_rtcppackets_pub_rtcp_errInvalidHeader), ("rtcppackets/pub/rtcp.errPacketTooShort", laid_rtcppackets_pub_rtcp_errPacketTooShort), ("rtcppackets/pub/rtcp.errBadVersion", laid_rtcppackets_pub_rtcp_errBadVersion)], narrowed := true }
def FnReadUptoSaid : Prop := fnReadUptoRow.holds Tryz.pinned (OpenSpec.upto fnReadSpec)

/-- 'laws.FnBack', WHERE WHAT IT READS IS OF BULK AT MOST 1048576: true; the input reads as it did. -/
def fnBackUptoRow : OpenClaim := { program := "ytkdialecadjedaagreatdoor", sum := "941e8fdd56bf4564e9baede904b57ef5cbd409759d4eca57f0b13d9489106c49", func := "rtcppackets/laws.FnBack", spec := "fnBack", inPlace := ["math.Float32frombits", "math.Float32bits"], unfollowed := true, recurses := true, named := ["rtcppackets/pub/rtcp.errInvalidHeader", "rtcppackets/pub/rtcp.errPacketTooShort", "rtcppackets/pub/rtcp.errBadVersion"], apart := false, laid := [("rtcppackets/pub/rtcp.errInvalidHeader", laid_rtcppackets_pub_rtcp_errInvalidHeader), ("rtcppackets/pub/rtcp.errPacketTooShort", laid_rtcppackets_pub_rtcp_errPacketTooShort), ("rtcppackets/pub/rtcp.errBadVersion", laid_rtcppackets_pub_rtcp_errBadVersion)], narrowed := true }
def FnBackUptoSaid : Prop := fnBackUptoRow.holds Tryz.pinned (OpenSpec.upto fnBackSpec)

/-- 'laws.FnReadWrite', WHERE WHAT IT READS IS OF BULK AT MOST 1048576: true; the input reads as it did. -/
def fnReadWriteUptoRow : OpenClaim := { program := "ytkdialecadjedaagreatdoor", sum := "941e8fdd56bf4564e9baede904b57ef5cbd409759d4eca57f0b13d9489106c49", func := "rtcppackets/laws.FnReadWrite", spec := "fnReadWrite", inPlace := ["math.Float32bits", "math.Float32frombits"], unfollowed := true, recurses := true, named := ["rtcppackets/pub/rtcp.errInvalidHeader", "rtcppackets/pub/rtcp.errPacketTooShort", "rtcppackets/pub/rtcp.errBadVersion"], apart := false, laid := [("rtcppackets/pub/rtcp.errInvalidHeader", laid_rtcppackets_pub_rtcp_errInvalidHeader), ("rtcppackets/pub/rtcp.errPacketTooShort", laid_rtcppackets_pub_rtcp_errPacketTooShort), ("rtcppackets/pub/rtcp.errBadVersion", laid_rtcppackets_pub_rtcp_errBadVersion)], narrowed := true }
def FnReadWriteUptoSaid : Prop := fnReadWriteUptoRow.holds Tryz.pinned (OpenSpec.upto fnReadWriteSpec)

/-- 'laws.FnHeaderWritten', WHERE WHAT IT READS IS OF BULK AT MOST 1048576: true; the input reads as it did. -/
def fnHeaderWrittenUptoRow : OpenClaim := { program := "ytkdialecadjedaagreatdoor", sum := "941e8fdd56bf4564e9baede904b57ef5cbd409759d4eca57f0b13d9489106c49", func := "rtcppackets/laws.FnHeaderWritten", spec := "fnHeaderWritten", inPlace := ["math.Float32frombits", "math.Float32bits"], unfollowed := true, recurses := true, named := ["rtcppackets/pub/rtcp.errInvalidHeader", "rtcppackets/pub/rtcp.errPacketTooShort", "rtcppackets/pub/rtcp.errBadVersion"], apart := false, laid := [("rtcppackets/pub/rtcp.errInvalidHeader", laid_rtcppackets_pub_rtcp_errInvalidHeader), ("rtcppackets/pub/rtcp.errPacketTooShort", laid_rtcppackets_pub_rtcp_errPacketTooShort), ("rtcppackets/pub/rtcp.errBadVersion", laid_rtcppackets_pub_rtcp_errBadVersion)], narrowed := true }
def FnHeaderWrittenUptoSaid : Prop := fnHeaderWrittenUptoRow.holds Tryz.pinned (OpenSpec.upto fnHeaderWrittenSpec)

/-- 'laws.FnHeader', WHERE WHAT IT READS IS OF BULK AT MOST 1048576: true; the input reads as it did. -/
def fnHeaderUptoRow : OpenClaim := { program := "ytkdialecadjedaagreatdoor", sum := "941e8fdd56bf4564e9baede904b57ef5cbd409759d4eca57f0b13d9489106c49", func := "rtcppackets/laws.FnHeader", spec := "fnHeader", inPlace := ["math.Float32frombits", "math.Float32bits"], unfollowed := true, recurses := true, named := ["rtcppackets/pub/rtcp.errPacketTooShort", "rtcppackets/pub/rtcp.errBadVersion", "rtcppackets/pub/rtcp.errInvalidHeader"], apart := false, laid := [("rtcppackets/pub/rtcp.errInvalidHeader", laid_rtcppackets_pub_rtcp_errInvalidHeader), ("rtcppackets/pub/rtcp.errPacketTooShort", laid_rtcppackets_pub_rtcp_errPacketTooShort), ("rtcppackets/pub/rtcp.errBadVersion", laid_rtcppackets_pub_rtcp_errBadVersion)], narrowed := true }
def FnHeaderUptoSaid : Prop := fnHeaderUptoRow.holds Tryz.pinned (OpenSpec.upto fnHeaderSpec)

/-- 'laws.FnOtherKind', WHERE WHAT IT READS IS OF BULK AT MOST 1048576: true; the input reads as it did. -/
def fnOtherKindUptoRow : OpenClaim := { program := "ytkdialecadjedaagreatdoor", sum := "941e8fdd56bf4564e9baede904b57ef5cbd409759d4eca57f0b13d9489106c49", func := "rtcppackets/laws.FnOtherKind", spec := "fnOtherKind", inPlace := ["math.Float32bits", "math.Float32frombits"], unfollowed := true, recurses := true, named := ["rtcppackets/pub/rtcp.errInvalidHeader", "rtcppackets/pub/rtcp.errPacketTooShort", "rtcppackets/pub/rtcp.errBadVersion"], apart := false, laid := [("rtcppackets/pub/rtcp.errInvalidHeader", laid_rtcppackets_pub_rtcp_errInvalidHeader), ("rtcppackets/pub/rtcp.errPacketTooShort", laid_rtcppackets_pub_rtcp_errPacketTooShort), ("rtcppackets/pub/rtcp.errBadVersion", laid_rtcppackets_pub_rtcp_errBadVersion)], narrowed := true }
def FnOtherKindUptoSaid : Prop := fnOtherKindUptoRow.holds Tryz.pinned (OpenSpec.upto fnOtherKindSpec)

/-- 'laws.FnRaw', WHERE WHAT IT READS IS OF BULK AT MOST 1048576: true; the input reads as it did. -/
def fnRawUptoRow : OpenClaim := { program := "ytkdialecadjedaagreatdoor", sum := "941e8fdd56bf4564e9baede904b57ef5cbd409759d4eca57f0b13d9489106c49", func := "rtcppackets/laws.FnRaw", spec := "fnRaw", inPlace := ["math.Float32frombits", "math.Float32bits"], unfollowed := true, recurses := true, named := ["rtcppackets/pub/rtcp.errPacketTooShort", "rtcppackets/pub/rtcp.errInvalidHeader", "rtcppackets/pub/rtcp.errBadVersion"], apart := false, laid := [("rtcppackets/pub/rtcp.errInvalidHeader", laid_rtcppackets_pub_rtcp_errInvalidHeader), ("rtcppackets/pub/rtcp.errPacketTooShort", laid_rtcppackets_pub_rtcp_errPacketTooShort), ("rtcppackets/pub/rtcp.errBadVersion", laid_rtcppackets_pub_rtcp_errBadVersion)], narrowed := true }
def FnRawUptoSaid : Prop := fnRawUptoRow.holds Tryz.pinned (OpenSpec.upto fnRawSpec)

/-- 'laws.FnCompound', WHERE WHAT IT READS IS OF BULK AT MOST 1048576: true; the input reads as it did. -/
def fnCompoundUptoRow : OpenClaim := { program := "ytkdialecadjedaagreatdoor", sum := "941e8fdd56bf4564e9baede904b57ef5cbd409759d4eca57f0b13d9489106c49", func := "rtcppackets/laws.FnCompound", spec := "fnCompound", inPlace := ["math.Float32frombits", "math.Float32bits"], unfollowed := true, recurses := true, named := ["rtcppackets/pub/rtcp.errEmptyCompound", "rtcppackets/pub/rtcp.errPacketBeforeCNAME", "rtcppackets/pub/rtcp.errMissingCNAME", "rtcppackets/pub/rtcp.errBadFirstPacket", "rtcppackets/pub/rtcp.errPacketTooShort", "rtcppackets/pub/rtcp.errBadVersion", "rtcppackets/pub/rtcp.errInvalidHeader"], apart := false, laid := [("rtcppackets/pub/rtcp.errInvalidHeader", laid_rtcppackets_pub_rtcp_errInvalidHeader), ("rtcppackets/pub/rtcp.errEmptyCompound", laid_rtcppackets_pub_rtcp_errEmptyCompound), ("rtcppackets/pub/rtcp.errBadFirstPacket", laid_rtcppackets_pub_rtcp_errBadFirstPacket), ("rtcppackets/pub/rtcp.errMissingCNAME", laid_rtcppackets_pub_rtcp_errMissingCNAME), ("rtcppackets/pub/rtcp.errPacketBeforeCNAME", laid_rtcppackets_pub_rtcp_errPacketBeforeCNAME), ("rtcppackets/pub/rtcp.errPacketTooShort", laid_rtcppackets_pub_rtcp_errPacketTooShort), ("rtcppackets/pub/rtcp.errBadVersion", laid_rtcppackets_pub_rtcp_errBadVersion)], narrowed := true }
def FnCompoundUptoSaid : Prop := fnCompoundUptoRow.holds Tryz.pinned (OpenSpec.upto fnCompoundSpec)

end Rows
end Go.Proofs.YtkdialecadjedaaGreatDoor
