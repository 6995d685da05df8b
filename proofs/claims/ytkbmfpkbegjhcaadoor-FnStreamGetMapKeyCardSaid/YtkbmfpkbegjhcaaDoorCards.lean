/-
  DERIVED. GIVEN WITH THE SEED: THE CARDS: each row of YtkbmfpkbegjhcaaDoorRows.lean that lists a variable, with what it lists TIED to the program's text (the seventh form; the later family's looks); each row that meets fmt, with fmt's text TOLD by the authors' own Lean function (tested against real Go, not proved from fmt's source: count such statements apart). THE CARD IS WHAT COUNTS. Prove the row's statement (the work); the ties are given (YtkbmfpkbegjhcaaDoorTie.lean); close each card by the builder's one call (the guide's Derived/Test/ToyasCard.lean, 'card_holds'). Laid BY PROGRAM, IN A SANDBOX (cutbox-door.mjs). By AI agents, Wed Nov 11 2026. No macro, syntax, notation, axiom, sorry.
-/
import Derived.Test.YtkbmfpkbegjhcaaDoorRows
import GoSem.ClaimSeven
namespace Go.Proofs.YtkbmfpkbegjhcaaDoor
namespace Rows

/-- THE TIED CARD OF 'laws.FnStreamGetTextBytes'. -/
def fnStreamGetTextBytesCard : Claim7 := { stood := { row := fnStreamGetTextBytesRow, standIns := [], harness := (true, "bf63f530940db63ad3ebd75396fe40b036b5391262ab28dcda1356182ba17e8c"), looks := true }, kinds := [], alts := [], laidByText := true, laidKinds := [.sentinel, .sentinel, .wider], laidTests := true, laidLooks := .later }
def FnStreamGetTextBytesCardSaid : Prop := Claim7.holds Tryd.pinned (.plain (OpenSpec.ofChange fnStreamGetTextBytesSpec)) fnStreamGetTextBytesCard

/-- THE TIED CARD OF 'laws.FnPutTime'. -/
def fnPutTimeCard : Claim7 := { stood := { row := fnPutTimeRow, standIns := [], harness := (true, "bf63f530940db63ad3ebd75396fe40b036b5391262ab28dcda1356182ba17e8c"), looks := true }, kinds := [], alts := [], laidByText := true, laidKinds := [.wider], laidTests := true, laidLooks := .later }
def FnPutTimeCardSaid : Prop := Claim7.holds Tryd.pinned (.plain (OpenSpec.ofChange fnPutTimeSpec)) fnPutTimeCard

/-- THE TIED CARD OF 'laws.FnReplace'. -/
def fnReplaceCard : Claim7 := { stood := { row := fnReplaceRow, standIns := [], harness := (true, "bf63f530940db63ad3ebd75396fe40b036b5391262ab28dcda1356182ba17e8c"), looks := true }, kinds := [], alts := [], laidByText := true, laidKinds := [.wider, .wider, .wider], laidTests := true, laidLooks := .later }
def FnReplaceCardSaid : Prop := Claim7.holds Tryd.pinned (.plain (OpenSpec.ofChange fnReplaceSpec)) fnReplaceCard

/-- THE TIED CARD OF 'laws.FnStreamGetMapKey'. -/
def fnStreamGetMapKeyCard : Claim7 := { stood := { row := fnStreamGetMapKeyRow, standIns := [], harness := (true, "bf63f530940db63ad3ebd75396fe40b036b5391262ab28dcda1356182ba17e8c"), looks := true }, kinds := [], alts := [], laidByText := true, laidKinds := [.sentinel, .sentinel, .wider], laidTests := true, laidLooks := .later }
def FnStreamGetMapKeyCardSaid : Prop := Claim7.holds Tryd.pinned (.plain (OpenSpec.ofChange fnStreamGetMapKeySpec)) fnStreamGetMapKeyCard

/-- THE TIED CARD OF 'laws.FnStreamGetInt64'. -/
def fnStreamGetInt64Card : Claim7 := { stood := { row := fnStreamGetInt64Row, standIns := [], harness := (true, "bf63f530940db63ad3ebd75396fe40b036b5391262ab28dcda1356182ba17e8c"), looks := true }, kinds := [], alts := [], laidByText := true, laidKinds := [.sentinel, .sentinel], laidTests := true, laidLooks := .later }
def FnStreamGetInt64CardSaid : Prop := Claim7.holds Tryd.pinned (.plain (OpenSpec.ofChange fnStreamGetInt64Spec)) fnStreamGetInt64Card

/-- THE TIED CARD OF 'laws.FnStreamGetUint64'. -/
def fnStreamGetUint64Card : Claim7 := { stood := { row := fnStreamGetUint64Row, standIns := [], harness := (true, "bf63f530940db63ad3ebd75396fe40b036b5391262ab28dcda1356182ba17e8c"), looks := true }, kinds := [], alts := [], laidByText := true, laidKinds := [.sentinel, .sentinel], laidTests := true, laidLooks := .later }
def FnStreamGetUint64CardSaid : Prop := Claim7.holds Tryd.pinned (.plain (OpenSpec.ofChange fnStreamGetUint64Spec)) fnStreamGetUint64Card

/-- THE TIED CARD OF 'laws.FnStreamGetByte'. -/
def fnStreamGetByteCard : Claim7 := { stood := { row := fnStreamGetByteRow, standIns := [], harness := (true, "bf63f530940db63ad3ebd75396fe40b036b5391262ab28dcda1356182ba17e8c"), looks := true }, kinds := [], alts := [], laidByText := true, laidKinds := [.sentinel, .sentinel], laidTests := true, laidLooks := .later }
def FnStreamGetByteCardSaid : Prop := Claim7.holds Tryd.pinned (.plain (OpenSpec.ofChange fnStreamGetByteSpec)) fnStreamGetByteCard

/-- THE TIED CARD OF 'laws.FnStreamPut'. -/
def fnStreamPutCard : Claim7 := { stood := { row := fnStreamPutRow, standIns := [], harness := (true, "bf63f530940db63ad3ebd75396fe40b036b5391262ab28dcda1356182ba17e8c"), looks := true }, kinds := [], alts := [], laidByText := true, laidKinds := [.wider], laidTests := true, laidLooks := .later }
def FnStreamPutCardSaid : Prop := Claim7.holds Tryd.pinned (.plain (OpenSpec.ofChange fnStreamPutSpec)) fnStreamPutCard

/-- THE SECOND FORM's CARD OF 'laws.FnStreamGetTextBytes'. -/
def fnStreamGetTextBytesUptoCard : Claim7 := { stood := { row := fnStreamGetTextBytesUptoRow, standIns := [], harness := (true, "bf63f530940db63ad3ebd75396fe40b036b5391262ab28dcda1356182ba17e8c"), looks := true }, kinds := [], alts := [], laidByText := true, laidKinds := [.sentinel, .sentinel, .wider], laidTests := true, laidLooks := .later }
def FnStreamGetTextBytesUptoCardSaid : Prop := Claim7.holds Tryd.pinned (.plain (OpenSpec.upto fnStreamGetTextBytesSpec)) fnStreamGetTextBytesUptoCard

/-- THE SECOND FORM's CARD OF 'laws.FnPutTime'. -/
def fnPutTimeUptoCard : Claim7 := { stood := { row := fnPutTimeUptoRow, standIns := [], harness := (true, "bf63f530940db63ad3ebd75396fe40b036b5391262ab28dcda1356182ba17e8c"), looks := true }, kinds := [], alts := [], laidByText := true, laidKinds := [.wider], laidTests := true, laidLooks := .later }
def FnPutTimeUptoCardSaid : Prop := Claim7.holds Tryd.pinned (.plain (OpenSpec.upto fnPutTimeSpec)) fnPutTimeUptoCard

/-- THE SECOND FORM's CARD OF 'laws.FnReplace'. -/
def fnReplaceUptoCard : Claim7 := { stood := { row := fnReplaceUptoRow, standIns := [], harness := (true, "bf63f530940db63ad3ebd75396fe40b036b5391262ab28dcda1356182ba17e8c"), looks := true }, kinds := [], alts := [], laidByText := true, laidKinds := [.wider, .wider, .wider], laidTests := true, laidLooks := .later }
def FnReplaceUptoCardSaid : Prop := Claim7.holds Tryd.pinned (.plain (OpenSpec.upto fnReplaceSpec)) fnReplaceUptoCard

/-- THE SECOND FORM's CARD OF 'laws.FnStreamGetMapKey'. -/
def fnStreamGetMapKeyUptoCard : Claim7 := { stood := { row := fnStreamGetMapKeyUptoRow, standIns := [], harness := (true, "bf63f530940db63ad3ebd75396fe40b036b5391262ab28dcda1356182ba17e8c"), looks := true }, kinds := [], alts := [], laidByText := true, laidKinds := [.sentinel, .sentinel, .wider], laidTests := true, laidLooks := .later }
def FnStreamGetMapKeyUptoCardSaid : Prop := Claim7.holds Tryd.pinned (.plain (OpenSpec.upto fnStreamGetMapKeySpec)) fnStreamGetMapKeyUptoCard

/-- THE SECOND FORM's CARD OF 'laws.FnStreamGetInt64'. -/
def fnStreamGetInt64UptoCard : Claim7 := { stood := { row := fnStreamGetInt64UptoRow, standIns := [], harness := (true, "bf63f530940db63ad3ebd75396fe40b036b5391262ab28dcda1356182ba17e8c"), looks := true }, kinds := [], alts := [], laidByText := true, laidKinds := [.sentinel, .sentinel], laidTests := true, laidLooks := .later }
def FnStreamGetInt64UptoCardSaid : Prop := Claim7.holds Tryd.pinned (.plain (OpenSpec.upto fnStreamGetInt64Spec)) fnStreamGetInt64UptoCard

/-- THE SECOND FORM's CARD OF 'laws.FnStreamGetUint64'. -/
def fnStreamGetUint64UptoCard : Claim7 := { stood := { row := fnStreamGetUint64UptoRow, standIns := [], harness := (true, "bf63f530940db63ad3ebd75396fe40b036b5391262ab28dcda1356182ba17e8c"), looks := true }, kinds := [], alts := [], laidByText := true, laidKinds := [.sentinel, .sentinel], laidTests := true, laidLooks := .later }
def FnStreamGetUint64UptoCardSaid : Prop := Claim7.holds Tryd.pinned (.plain (OpenSpec.upto fnStreamGetUint64Spec)) fnStreamGetUint64UptoCard

/-- THE SECOND FORM's CARD OF 'laws.FnStreamGetByte'. -/
def fnStreamGetByteUptoCard : Claim7 := { stood := { row := fnStreamGetByteUptoRow, standIns := [], harness := (true, "bf63f530940db63ad3ebd75396fe40b036b5391262ab28dcda1356182ba17e8c"), looks := true }, kinds := [], alts := [], laidByText := true, laidKinds := [.sentinel, .sentinel], laidTests := true, laidLooks := .later }
def FnStreamGetByteUptoCardSaid : Prop := Claim7.holds Tryd.pinned (.plain (OpenSpec.upto fnStreamGetByteSpec)) fnStreamGetByteUptoCard

/-- THE SECOND FORM's CARD OF 'laws.FnStreamPut'. -/
def fnStreamPutUptoCard : Claim7 := { stood := { row := fnStreamPutUptoRow, standIns := [], harness := (true, "bf63f530940db63ad3ebd75396fe40b036b5391262ab28dcda1356182ba17e8c"), looks := true }, kinds := [], alts := [], laidByText := true, laidKinds := [.wider], laidTests := true, laidLooks := .later }
def FnStreamPutUptoCardSaid : Prop := Claim7.holds Tryd.pinned (.plain (OpenSpec.upto fnStreamPutSpec)) fnStreamPutUptoCard
end Rows
end Go.Proofs.YtkbmfpkbegjhcaaDoor
