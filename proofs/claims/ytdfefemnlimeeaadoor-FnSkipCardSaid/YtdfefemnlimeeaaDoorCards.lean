/-
  DERIVED. GIVEN WITH THE SEED: THE CARDS: each row of YtdfefemnlimeeaaDoorRows.lean that lists a variable, with what it lists TIED to the program's text (the seventh form; the later family's looks); each row that meets fmt, with fmt's text TOLD by the authors' own Lean function (tested against real Go, not proved from fmt's source: count such statements apart). THE CARD IS WHAT COUNTS. Prove the row's statement (the work); the ties are given (YtdfefemnlimeeaaDoorTie.lean); close each card by the builder's one call (the guide's Derived/Test/ToyasCard.lean, 'card_holds'). Laid BY PROGRAM, IN A SANDBOX (cutbox-door.mjs). By AI agents, Wed Nov 11 2026. No macro, syntax, notation, axiom, sorry.
-/
import Derived.Test.YtdfefemnlimeeaaDoorRows
import GoSem.ClaimSeven
namespace Go.Proofs.YtdfefemnlimeeaaDoor
namespace Rows

/-- THE TIED CARD OF 'laws.FnGetNil'. -/
def fnGetNilCard : Claim7 := { stood := { row := fnGetNilRow, standIns := [], harness := (true, "32c2c72e5b79a7125ff6e38e6e85d99f320a0b612bcaf33fcfaed9058f18e471"), looks := true }, kinds := [], alts := [], laidByText := true, laidKinds := [.wider], laidTests := true, laidLooks := .later }
def FnGetNilCardSaid : Prop := Claim7.holds Tryd.pinned (.plain (OpenSpec.ofChange fnGetNilSpec)) fnGetNilCard

/-- THE TIED CARD OF 'laws.FnGetText'. -/
def fnGetTextCard : Claim7 := { stood := { row := fnGetTextRow, standIns := [], harness := (true, "32c2c72e5b79a7125ff6e38e6e85d99f320a0b612bcaf33fcfaed9058f18e471"), looks := true }, kinds := [], alts := [], laidByText := true, laidKinds := [.wider], laidTests := true, laidLooks := .later }
def FnGetTextCardSaid : Prop := Claim7.holds Tryd.pinned (.plain (OpenSpec.ofChange fnGetTextSpec)) fnGetTextCard

/-- THE TIED CARD OF 'laws.FnSkip'. -/
def fnSkipCard : Claim7 := { stood := { row := fnSkipRow, standIns := [], harness := (true, "32c2c72e5b79a7125ff6e38e6e85d99f320a0b612bcaf33fcfaed9058f18e471"), looks := true }, kinds := [], alts := [], laidByText := true, laidKinds := [.wider, .wider, .wider], laidTests := true, laidLooks := .later }
def FnSkipCardSaid : Prop := Claim7.holds Tryd.pinned (.plain (OpenSpec.ofChange fnSkipSpec)) fnSkipCard

/-- THE TIED CARD OF 'laws.FnGetInt8'. -/
def fnGetInt8Card : Claim7 := { stood := { row := fnGetInt8Row, standIns := [], harness := (true, "32c2c72e5b79a7125ff6e38e6e85d99f320a0b612bcaf33fcfaed9058f18e471"), looks := true }, kinds := [], alts := [], laidByText := true, laidKinds := [.wider], laidTests := true, laidLooks := .later }
def FnGetInt8CardSaid : Prop := Claim7.holds Tryd.pinned (.plain (OpenSpec.ofChange fnGetInt8Spec)) fnGetInt8Card

/-- THE TIED CARD OF 'laws.FnGetMapKey'. -/
def fnGetMapKeyCard : Claim7 := { stood := { row := fnGetMapKeyRow, standIns := [], harness := (true, "32c2c72e5b79a7125ff6e38e6e85d99f320a0b612bcaf33fcfaed9058f18e471"), looks := true }, kinds := [], alts := [], laidByText := true, laidKinds := [.wider], laidTests := true, laidLooks := .later }
def FnGetMapKeyCardSaid : Prop := Claim7.holds Tryd.pinned (.plain (OpenSpec.ofChange fnGetMapKeySpec)) fnGetMapKeyCard

/-- THE TIED CARD OF 'laws.FnGetUint8'. -/
def fnGetUint8Card : Claim7 := { stood := { row := fnGetUint8Row, standIns := [], harness := (true, "32c2c72e5b79a7125ff6e38e6e85d99f320a0b612bcaf33fcfaed9058f18e471"), looks := true }, kinds := [], alts := [], laidByText := true, laidKinds := [.wider], laidTests := true, laidLooks := .later }
def FnGetUint8CardSaid : Prop := Claim7.holds Tryd.pinned (.plain (OpenSpec.ofChange fnGetUint8Spec)) fnGetUint8Card

/-- THE SECOND FORM's CARD OF 'laws.FnGetNil'. -/
def fnGetNilUptoCard : Claim7 := { stood := { row := fnGetNilUptoRow, standIns := [], harness := (true, "32c2c72e5b79a7125ff6e38e6e85d99f320a0b612bcaf33fcfaed9058f18e471"), looks := true }, kinds := [], alts := [], laidByText := true, laidKinds := [.wider], laidTests := true, laidLooks := .later }
def FnGetNilUptoCardSaid : Prop := Claim7.holds Tryd.pinned (.plain (OpenSpec.upto fnGetNilSpec)) fnGetNilUptoCard

/-- THE SECOND FORM's CARD OF 'laws.FnGetText'. -/
def fnGetTextUptoCard : Claim7 := { stood := { row := fnGetTextUptoRow, standIns := [], harness := (true, "32c2c72e5b79a7125ff6e38e6e85d99f320a0b612bcaf33fcfaed9058f18e471"), looks := true }, kinds := [], alts := [], laidByText := true, laidKinds := [.wider], laidTests := true, laidLooks := .later }
def FnGetTextUptoCardSaid : Prop := Claim7.holds Tryd.pinned (.plain (OpenSpec.upto fnGetTextSpec)) fnGetTextUptoCard

/-- THE SECOND FORM's CARD OF 'laws.FnSkip'. -/
def fnSkipUptoCard : Claim7 := { stood := { row := fnSkipUptoRow, standIns := [], harness := (true, "32c2c72e5b79a7125ff6e38e6e85d99f320a0b612bcaf33fcfaed9058f18e471"), looks := true }, kinds := [], alts := [], laidByText := true, laidKinds := [.wider, .wider, .wider], laidTests := true, laidLooks := .later }
def FnSkipUptoCardSaid : Prop := Claim7.holds Tryd.pinned (.plain (OpenSpec.upto fnSkipSpec)) fnSkipUptoCard

/-- THE SECOND FORM's CARD OF 'laws.FnGetInt8'. -/
def fnGetInt8UptoCard : Claim7 := { stood := { row := fnGetInt8UptoRow, standIns := [], harness := (true, "32c2c72e5b79a7125ff6e38e6e85d99f320a0b612bcaf33fcfaed9058f18e471"), looks := true }, kinds := [], alts := [], laidByText := true, laidKinds := [.wider], laidTests := true, laidLooks := .later }
def FnGetInt8UptoCardSaid : Prop := Claim7.holds Tryd.pinned (.plain (OpenSpec.upto fnGetInt8Spec)) fnGetInt8UptoCard

/-- THE SECOND FORM's CARD OF 'laws.FnGetMapKey'. -/
def fnGetMapKeyUptoCard : Claim7 := { stood := { row := fnGetMapKeyUptoRow, standIns := [], harness := (true, "32c2c72e5b79a7125ff6e38e6e85d99f320a0b612bcaf33fcfaed9058f18e471"), looks := true }, kinds := [], alts := [], laidByText := true, laidKinds := [.wider], laidTests := true, laidLooks := .later }
def FnGetMapKeyUptoCardSaid : Prop := Claim7.holds Tryd.pinned (.plain (OpenSpec.upto fnGetMapKeySpec)) fnGetMapKeyUptoCard

/-- THE SECOND FORM's CARD OF 'laws.FnGetUint8'. -/
def fnGetUint8UptoCard : Claim7 := { stood := { row := fnGetUint8UptoRow, standIns := [], harness := (true, "32c2c72e5b79a7125ff6e38e6e85d99f320a0b612bcaf33fcfaed9058f18e471"), looks := true }, kinds := [], alts := [], laidByText := true, laidKinds := [.wider], laidTests := true, laidLooks := .later }
def FnGetUint8UptoCardSaid : Prop := Claim7.holds Tryd.pinned (.plain (OpenSpec.upto fnGetUint8Spec)) fnGetUint8UptoCard
end Rows
end Go.Proofs.YtdfefemnlimeeaaDoor
