/-
  DERIVED. GIVEN WITH THE SEED: THE CARDS: each row of YtkdialecadjedaaGreatDoorRows.lean that lists a variable, with what it lists TIED to the program's text (the seventh form; the later family's looks); each row that meets fmt, with fmt's text TOLD by the authors' own Lean function (tested against real Go, not proved from fmt's source: count such statements apart). THE CARD IS WHAT COUNTS. Prove the row's statement (the work); the ties are given (YtkdialecadjedaaGreatDoorTie.lean); close each card by the builder's one call (the guide's Derived/Test/ToyasCard.lean, 'card_holds'). Laid BY PROGRAM, IN A SANDBOX (cutbox-door.mjs). By AI agents, Wed Nov 11 2026. No macro, syntax, notation, axiom, sorry.
-/
import Derived.Test.YtkdialecadjedaaGreatDoorRows
import GoSem.ClaimSeven
namespace Go.Proofs.YtkdialecadjedaaGreatDoor
namespace Rows

/-- THE TIED CARD OF 'laws.FnRead'. -/
def fnReadCard : Claim7 := { stood := { row := fnReadRow, standIns := [], harness := (true, "b7ee73da011cb5a243ebb3ac6df3fcd27854d427de63dfd11919d9d779e961cf"), looks := true }, kinds := [], alts := [], laidByText := true, laidKinds := [.sentinel, .sentinel, .sentinel], laidTests := true, laidLooks := .later }
def FnReadCardSaid : Prop := Claim7.holds Tryz.pinned (.plain (OpenSpec.ofChange fnReadSpec)) fnReadCard

/-- THE TIED CARD OF 'laws.FnBack'. -/
def fnBackCard : Claim7 := { stood := { row := fnBackRow, standIns := [], harness := (true, "b7ee73da011cb5a243ebb3ac6df3fcd27854d427de63dfd11919d9d779e961cf"), looks := true }, kinds := [], alts := [], laidByText := true, laidKinds := [.sentinel, .sentinel, .sentinel], laidTests := true, laidLooks := .later }
def FnBackCardSaid : Prop := Claim7.holds Tryz.pinned (.plain (OpenSpec.ofChange fnBackSpec)) fnBackCard

/-- THE TIED CARD OF 'laws.FnReadWrite'. -/
def fnReadWriteCard : Claim7 := { stood := { row := fnReadWriteRow, standIns := [], harness := (true, "b7ee73da011cb5a243ebb3ac6df3fcd27854d427de63dfd11919d9d779e961cf"), looks := true }, kinds := [], alts := [], laidByText := true, laidKinds := [.sentinel, .sentinel, .sentinel], laidTests := true, laidLooks := .later }
def FnReadWriteCardSaid : Prop := Claim7.holds Tryz.pinned (.plain (OpenSpec.ofChange fnReadWriteSpec)) fnReadWriteCard

/-- THE TIED CARD OF 'laws.FnHeaderWritten'. -/
def fnHeaderWrittenCard : Claim7 := { stood := { row := fnHeaderWrittenRow, standIns := [], harness := (true, "b7ee73da011cb5a243ebb3ac6df3fcd27854d427de63dfd11919d9d779e961cf"), looks := true }, kinds := [], alts := [], laidByText := true, laidKinds := [.sentinel, .sentinel, .sentinel], laidTests := true, laidLooks := .later }
def FnHeaderWrittenCardSaid : Prop := Claim7.holds Tryz.pinned (.plain (OpenSpec.ofChange fnHeaderWrittenSpec)) fnHeaderWrittenCard

/-- THE TIED CARD OF 'laws.FnHeader'. -/
def fnHeaderCard : Claim7 := { stood := { row := fnHeaderRow, standIns := [], harness := (true, "b7ee73da011cb5a243ebb3ac6df3fcd27854d427de63dfd11919d9d779e961cf"), looks := true }, kinds := [], alts := [], laidByText := true, laidKinds := [.sentinel, .sentinel, .sentinel], laidTests := true, laidLooks := .later }
def FnHeaderCardSaid : Prop := Claim7.holds Tryz.pinned (.plain (OpenSpec.ofChange fnHeaderSpec)) fnHeaderCard

/-- THE TIED CARD OF 'laws.FnOtherKind'. -/
def fnOtherKindCard : Claim7 := { stood := { row := fnOtherKindRow, standIns := [], harness := (true, "b7ee73da011cb5a243ebb3ac6df3fcd27854d427de63dfd11919d9d779e961cf"), looks := true }, kinds := [], alts := [], laidByText := true, laidKinds := [.sentinel, .sentinel, .sentinel], laidTests := true, laidLooks := .later }
def FnOtherKindCardSaid : Prop := Claim7.holds Tryz.pinned (.plain (OpenSpec.ofChange fnOtherKindSpec)) fnOtherKindCard

/-- THE TIED CARD OF 'laws.FnRaw'. -/
def fnRawCard : Claim7 := { stood := { row := fnRawRow, standIns := [], harness := (true, "b7ee73da011cb5a243ebb3ac6df3fcd27854d427de63dfd11919d9d779e961cf"), looks := true }, kinds := [], alts := [], laidByText := true, laidKinds := [.sentinel, .sentinel, .sentinel], laidTests := true, laidLooks := .later }
def FnRawCardSaid : Prop := Claim7.holds Tryz.pinned (.plain (OpenSpec.ofChange fnRawSpec)) fnRawCard

/-- THE TIED CARD OF 'laws.FnCompound'. -/
def fnCompoundCard : Claim7 := { stood := { row := fnCompoundRow, standIns := [], harness := (true, "b7ee73da011cb5a243ebb3ac6df3fcd27854d427de63dfd11919d9d779e961cf"), looks := true }, kinds := [], alts := [], laidByText := true, laidKinds := [.sentinel, .sentinel, .sentinel, .sentinel, .sentinel, .sentinel, .sentinel], laidTests := true, laidLooks := .later }
def FnCompoundCardSaid : Prop := Claim7.holds Tryz.pinned (.plain (OpenSpec.ofChange fnCompoundSpec)) fnCompoundCard

/-- THE SECOND FORM's CARD OF 'laws.FnRead'. -/
def fnReadUptoCard : Claim7 := { stood := { row := fnReadUptoRow, standIns := [], harness := (true, "b7ee73da011cb5a243ebb3ac6df3fcd27854d427de63dfd11919d9d779e961cf"), looks := true }, kinds := [], alts := [], laidByText := true, laidKinds := [.sentinel, .sentinel, .sentinel], laidTests := true, laidLooks := .later }
def FnReadUptoCardSaid : Prop := Claim7.holds Tryz.pinned (.plain (OpenSpec.upto fnReadSpec)) fnReadUptoCard

/-- THE SECOND FORM's CARD OF 'laws.FnBack'. -/
def fnBackUptoCard : Claim7 := { stood := { row := fnBackUptoRow, standIns := [], harness := (true, "b7ee73da011cb5a243ebb3ac6df3fcd27854d427de63dfd11919d9d779e961cf"), looks := true }, kinds := [], alts := [], laidByText := true, laidKinds := [.sentinel, .sentinel, .sentinel], laidTests := true, laidLooks := .later }
def FnBackUptoCardSaid : Prop := Claim7.holds Tryz.pinned (.plain (OpenSpec.upto fnBackSpec)) fnBackUptoCard

/-- THE SECOND FORM's CARD OF 'laws.FnReadWrite'. -/
def fnReadWriteUptoCard : Claim7 := { stood := { row := fnReadWriteUptoRow, standIns := [], harness := (true, "b7ee73da011cb5a243ebb3ac6df3fcd27854d427de63dfd11919d9d779e961cf"), looks := true }, kinds := [], alts := [], laidByText := true, laidKinds := [.sentinel, .sentinel, .sentinel], laidTests := true, laidLooks := .later }
def FnReadWriteUptoCardSaid : Prop := Claim7.holds Tryz.pinned (.plain (OpenSpec.upto fnReadWriteSpec)) fnReadWriteUptoCard

/-- THE SECOND FORM's CARD OF 'laws.FnHeaderWritten'. -/
def fnHeaderWrittenUptoCard : Claim7 := { stood := { row := fnHeaderWrittenUptoRow, standIns := [], harness := (true, "b7ee73da011cb5a243ebb3ac6df3fcd27854d427de63dfd11919d9d779e961cf"), looks := true }, kinds := [], alts := [], laidByText := true, laidKinds := [.sentinel, .sentinel, .sentinel], laidTests := true, laidLooks := .later }
def FnHeaderWrittenUptoCardSaid : Prop := Claim7.holds Tryz.pinned (.plain (OpenSpec.upto fnHeaderWrittenSpec)) fnHeaderWrittenUptoCard

/-- THE SECOND FORM's CARD OF 'laws.FnHeader'. -/
def fnHeaderUptoCard : Claim7 := { stood := { row := fnHeaderUptoRow, standIns := [], harness := (true, "b7ee73da011cb5a243ebb3ac6df3fcd27854d427de63dfd11919d9d779e961cf"), looks := true }, kinds := [], alts := [], laidByText := true, laidKinds := [.sentinel, .sentinel, .sentinel], laidTests := true, laidLooks := .later }
def FnHeaderUptoCardSaid : Prop := Claim7.holds Tryz.pinned (.plain (OpenSpec.upto fnHeaderSpec)) fnHeaderUptoCard

/-- THE SECOND FORM's CARD OF 'laws.FnOtherKind'. -/
def fnOtherKindUptoCard : Claim7 := { stood := { row := fnOtherKindUptoRow, standIns := [], harness := (true, "b7ee73da011cb5a243ebb3ac6df3fcd27854d427de63dfd11919d9d779e961cf"), looks := true }, kinds := [], alts := [], laidByText := true, laidKinds := [.sentinel, .sentinel, .sentinel], laidTests := true, laidLooks := .later }
def FnOtherKindUptoCardSaid : Prop := Claim7.holds Tryz.pinned (.plain (OpenSpec.upto fnOtherKindSpec)) fnOtherKindUptoCard

/-- THE SECOND FORM's CARD OF 'laws.FnRaw'. -/
def fnRawUptoCard : Claim7 := { stood := { row := fnRawUptoRow, standIns := [], harness := (true, "b7ee73da011cb5a243ebb3ac6df3fcd27854d427de63dfd11919d9d779e961cf"), looks := true }, kinds := [], alts := [], laidByText := true, laidKinds := [.sentinel, .sentinel, .sentinel], laidTests := true, laidLooks := .later }
def FnRawUptoCardSaid : Prop := Claim7.holds Tryz.pinned (.plain (OpenSpec.upto fnRawSpec)) fnRawUptoCard

/-- THE SECOND FORM's CARD OF 'laws.FnCompound'. -/
def fnCompoundUptoCard : Claim7 := { stood := { row := fnCompoundUptoRow, standIns := [], harness := (true, "b7ee73da011cb5a243ebb3ac6df3fcd27854d427de63dfd11919d9d779e961cf"), looks := true }, kinds := [], alts := [], laidByText := true, laidKinds := [.sentinel, .sentinel, .sentinel, .sentinel, .sentinel, .sentinel, .sentinel], laidTests := true, laidLooks := .later }
def FnCompoundUptoCardSaid : Prop := Claim7.holds Tryz.pinned (.plain (OpenSpec.upto fnCompoundSpec)) fnCompoundUptoCard
end Rows
end Go.Proofs.YtkdialecadjedaaGreatDoor
