/-
  DERIVED. GIVEN WITH THE SEED: THE PROGRAM's TIES (one call each: nine closed facts by the kernel) AND EACH ROW's TIE, after the 31st guide's Derived/Test/Toyas{Tie, Card}.lean. No idea stands in it: it is a product of the set-up. Laid BY PROGRAM, IN A SANDBOX (cutbox-door.mjs). By AI agents, Wed Nov 11 2026. No macro, syntax, notation, axiom, sorry.
-/
import Derived.Test.YtkdialecadjedaaGreatDoorRows
import Derived.LaidByTextLater
import Derived.SevenTiedAt
import Derived.LaidSub
import Derived.LaidOnce
namespace Go.Proofs.YtkdialecadjedaaGreatDoor
open Go
set_option maxRecDepth 100000
theorem seatTie1 : Tryz.prog.laidByTextLater [("rtcppackets/pub/rtcp.errInvalidHeader", Rows.laid_rtcppackets_pub_rtcp_errInvalidHeader), ("rtcppackets/pub/rtcp.errEmptyCompound", Rows.laid_rtcppackets_pub_rtcp_errEmptyCompound), ("rtcppackets/pub/rtcp.errBadFirstPacket", Rows.laid_rtcppackets_pub_rtcp_errBadFirstPacket), ("rtcppackets/pub/rtcp.errMissingCNAME", Rows.laid_rtcppackets_pub_rtcp_errMissingCNAME), ("rtcppackets/pub/rtcp.errPacketBeforeCNAME", Rows.laid_rtcppackets_pub_rtcp_errPacketBeforeCNAME), ("rtcppackets/pub/rtcp.errPacketTooShort", Rows.laid_rtcppackets_pub_rtcp_errPacketTooShort), ("rtcppackets/pub/rtcp.errBadVersion", Rows.laid_rtcppackets_pub_rtcp_errBadVersion)] [.sentinel, .sentinel, .sentinel, .sentinel, .sentinel, .sentinel, .sentinel] true :=
  Program.laidByTextLater_by_one 693 8 2 (by kernel_rfl) (by kernel_rfl) (by kernel_rfl) (by kernel_rfl) (by kernel_rfl) (by kernel_rfl) (fun _ _ => by kernel_rfl)
theorem noOwnUnsafe : Tryz.pinned.checked.prog.headLifts.contains "ownunsafe" = false := by kernel_rfl
theorem tie : Tryz.prog.laidByTextLater [("rtcppackets/pub/rtcp.errInvalidHeader", Rows.laid_rtcppackets_pub_rtcp_errInvalidHeader), ("rtcppackets/pub/rtcp.errPacketTooShort", Rows.laid_rtcppackets_pub_rtcp_errPacketTooShort), ("rtcppackets/pub/rtcp.errBadVersion", Rows.laid_rtcppackets_pub_rtcp_errBadVersion)] [.sentinel, .sentinel, .sentinel] true :=
  Program.laidByTextLater.sub seatTie1 ["rtcppackets/pub/rtcp.errInvalidHeader", "rtcppackets/pub/rtcp.errPacketTooShort", "rtcppackets/pub/rtcp.errBadVersion"] (by kernel_rfl) (by kernel_rfl)
theorem fnRead_row_tie : Rows.fnReadRow.laidByTextAt .later Tryz.pinned [.sentinel, .sentinel, .sentinel] true :=
  OpenClaim.laidByTextAt_later rfl rfl tie noOwnUnsafe
theorem fnBack_row_tie : Rows.fnBackRow.laidByTextAt .later Tryz.pinned [.sentinel, .sentinel, .sentinel] true :=
  OpenClaim.laidByTextAt_later rfl rfl tie noOwnUnsafe
theorem fnReadWrite_row_tie : Rows.fnReadWriteRow.laidByTextAt .later Tryz.pinned [.sentinel, .sentinel, .sentinel] true :=
  OpenClaim.laidByTextAt_later rfl rfl tie noOwnUnsafe
theorem fnHeaderWritten_row_tie : Rows.fnHeaderWrittenRow.laidByTextAt .later Tryz.pinned [.sentinel, .sentinel, .sentinel] true :=
  OpenClaim.laidByTextAt_later rfl rfl tie noOwnUnsafe
theorem fnHeader_row_tie : Rows.fnHeaderRow.laidByTextAt .later Tryz.pinned [.sentinel, .sentinel, .sentinel] true :=
  OpenClaim.laidByTextAt_later rfl rfl tie noOwnUnsafe
theorem fnOtherKind_row_tie : Rows.fnOtherKindRow.laidByTextAt .later Tryz.pinned [.sentinel, .sentinel, .sentinel] true :=
  OpenClaim.laidByTextAt_later rfl rfl tie noOwnUnsafe
theorem fnRaw_row_tie : Rows.fnRawRow.laidByTextAt .later Tryz.pinned [.sentinel, .sentinel, .sentinel] true :=
  OpenClaim.laidByTextAt_later rfl rfl tie noOwnUnsafe
theorem tie2 : Tryz.prog.laidByTextLater [("rtcppackets/pub/rtcp.errInvalidHeader", Rows.laid_rtcppackets_pub_rtcp_errInvalidHeader), ("rtcppackets/pub/rtcp.errEmptyCompound", Rows.laid_rtcppackets_pub_rtcp_errEmptyCompound), ("rtcppackets/pub/rtcp.errBadFirstPacket", Rows.laid_rtcppackets_pub_rtcp_errBadFirstPacket), ("rtcppackets/pub/rtcp.errMissingCNAME", Rows.laid_rtcppackets_pub_rtcp_errMissingCNAME), ("rtcppackets/pub/rtcp.errPacketBeforeCNAME", Rows.laid_rtcppackets_pub_rtcp_errPacketBeforeCNAME), ("rtcppackets/pub/rtcp.errPacketTooShort", Rows.laid_rtcppackets_pub_rtcp_errPacketTooShort), ("rtcppackets/pub/rtcp.errBadVersion", Rows.laid_rtcppackets_pub_rtcp_errBadVersion)] [.sentinel, .sentinel, .sentinel, .sentinel, .sentinel, .sentinel, .sentinel] true :=
  Program.laidByTextLater.sub seatTie1 ["rtcppackets/pub/rtcp.errInvalidHeader", "rtcppackets/pub/rtcp.errEmptyCompound", "rtcppackets/pub/rtcp.errBadFirstPacket", "rtcppackets/pub/rtcp.errMissingCNAME", "rtcppackets/pub/rtcp.errPacketBeforeCNAME", "rtcppackets/pub/rtcp.errPacketTooShort", "rtcppackets/pub/rtcp.errBadVersion"] (by kernel_rfl) (by kernel_rfl)
theorem fnCompound_row_tie : Rows.fnCompoundRow.laidByTextAt .later Tryz.pinned [.sentinel, .sentinel, .sentinel, .sentinel, .sentinel, .sentinel, .sentinel] true :=
  OpenClaim.laidByTextAt_later rfl rfl tie2 noOwnUnsafe
theorem fnReadUpto_row_tie : Rows.fnReadUptoRow.laidByTextAt .later Tryz.pinned [.sentinel, .sentinel, .sentinel] true :=
  OpenClaim.laidByTextAt_later rfl rfl tie noOwnUnsafe
theorem fnBackUpto_row_tie : Rows.fnBackUptoRow.laidByTextAt .later Tryz.pinned [.sentinel, .sentinel, .sentinel] true :=
  OpenClaim.laidByTextAt_later rfl rfl tie noOwnUnsafe
theorem fnReadWriteUpto_row_tie : Rows.fnReadWriteUptoRow.laidByTextAt .later Tryz.pinned [.sentinel, .sentinel, .sentinel] true :=
  OpenClaim.laidByTextAt_later rfl rfl tie noOwnUnsafe
theorem fnHeaderWrittenUpto_row_tie : Rows.fnHeaderWrittenUptoRow.laidByTextAt .later Tryz.pinned [.sentinel, .sentinel, .sentinel] true :=
  OpenClaim.laidByTextAt_later rfl rfl tie noOwnUnsafe
theorem fnHeaderUpto_row_tie : Rows.fnHeaderUptoRow.laidByTextAt .later Tryz.pinned [.sentinel, .sentinel, .sentinel] true :=
  OpenClaim.laidByTextAt_later rfl rfl tie noOwnUnsafe
theorem fnOtherKindUpto_row_tie : Rows.fnOtherKindUptoRow.laidByTextAt .later Tryz.pinned [.sentinel, .sentinel, .sentinel] true :=
  OpenClaim.laidByTextAt_later rfl rfl tie noOwnUnsafe
theorem fnRawUpto_row_tie : Rows.fnRawUptoRow.laidByTextAt .later Tryz.pinned [.sentinel, .sentinel, .sentinel] true :=
  OpenClaim.laidByTextAt_later rfl rfl tie noOwnUnsafe
theorem fnCompoundUpto_row_tie : Rows.fnCompoundUptoRow.laidByTextAt .later Tryz.pinned [.sentinel, .sentinel, .sentinel, .sentinel, .sentinel, .sentinel, .sentinel] true :=
  OpenClaim.laidByTextAt_later rfl rfl tie2 noOwnUnsafe
end Go.Proofs.YtkdialecadjedaaGreatDoor
