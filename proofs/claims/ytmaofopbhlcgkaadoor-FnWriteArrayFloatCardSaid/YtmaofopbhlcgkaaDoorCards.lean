/-
  DERIVED. GIVEN WITH THE SEED: THE CARDS: each row of YtmaofopbhlcgkaaDoorRows.lean that lists a variable, with what it lists TIED to the program's text (the seventh form; the later family's looks); each row that meets fmt, with fmt's text TOLD by the authors' own Lean function (tested against real Go, not proved from fmt's source: count such statements apart). THE CARD IS WHAT COUNTS. Prove the row's statement (the work); the ties are given (YtmaofopbhlcgkaaDoorTie.lean); close each card by the builder's one call (the guide's Derived/Test/ToyasCard.lean, 'card_holds'). Laid BY PROGRAM, IN A SANDBOX (cutbox-door.mjs). By AI agents, Wed Nov 11 2026. No macro, syntax, notation, axiom, sorry.
-/
import Derived.Test.YtmaofopbhlcgkaaDoorRows
import GoSem.ClaimSeven
namespace Go.Proofs.YtmaofopbhlcgkaaDoor
namespace Rows

/-- THE TIED CARD OF 'laws.FnWriteInt'. -/
def fnWriteIntCard : Claim7 := { stood := { row := fnWriteIntRow, standIns := [], harness := (true, "be757ceac0d783a3393dc06f5cef099b9ffd24e909e5ea57243e49e9d3cb851f"), looks := false }, kinds := [], alts := [], laidByText := true, laidKinds := [.data, .pinned], laidTests := true, laidLooks := .later }
def FnWriteIntCardSaid : Prop := Claim7.holds Tryd.pinned (.plain (OpenSpec.ofChange fnWriteIntSpec)) fnWriteIntCard

/-- THE TIED CARD OF 'laws.FnWriteString'. -/
def fnWriteStringCard : Claim7 := { stood := { row := fnWriteStringRow, standIns := [], harness := (true, "be757ceac0d783a3393dc06f5cef099b9ffd24e909e5ea57243e49e9d3cb851f"), looks := false }, kinds := [], alts := [], laidByText := true, laidKinds := [.data, .pinned], laidTests := true, laidLooks := .later }
def FnWriteStringCardSaid : Prop := Claim7.holds Tryd.pinned (.plain (OpenSpec.ofChange fnWriteStringSpec)) fnWriteStringCard

/-- THE TIED CARD OF 'laws.FnWriteArrayFloat'. -/
def fnWriteArrayFloatCard : Claim7 := { stood := { row := fnWriteArrayFloatRow, standIns := [], harness := (true, "be757ceac0d783a3393dc06f5cef099b9ffd24e909e5ea57243e49e9d3cb851f"), looks := false }, kinds := [], alts := [], laidByText := true, laidKinds := [.data, .pinned], laidTests := true, laidLooks := .later }
def FnWriteArrayFloatCardSaid : Prop := Claim7.holds Tryd.pinned (.plain (OpenSpec.ofChange fnWriteArrayFloatSpec)) fnWriteArrayFloatCard

/-- THE TIED CARD OF 'laws.FnGetNil'. -/
def fnGetNilCard : Claim7 := { stood := { row := fnGetNilRow, standIns := [], harness := (true, "be757ceac0d783a3393dc06f5cef099b9ffd24e909e5ea57243e49e9d3cb851f"), looks := false }, kinds := [], alts := [], laidByText := true, laidKinds := [.wider], laidTests := true, laidLooks := .later }
def FnGetNilCardSaid : Prop := Claim7.holds Tryd.pinned (.plain (OpenSpec.ofChange fnGetNilSpec)) fnGetNilCard

/-- THE SECOND FORM's CARD OF 'laws.FnWriteInt'. -/
def fnWriteIntUptoCard : Claim7 := { stood := { row := fnWriteIntUptoRow, standIns := [], harness := (true, "be757ceac0d783a3393dc06f5cef099b9ffd24e909e5ea57243e49e9d3cb851f"), looks := false }, kinds := [], alts := [], laidByText := true, laidKinds := [.data, .pinned], laidTests := true, laidLooks := .later }
def FnWriteIntUptoCardSaid : Prop := Claim7.holds Tryd.pinned (.plain (OpenSpec.upto fnWriteIntSpec)) fnWriteIntUptoCard

/-- THE SECOND FORM's CARD OF 'laws.FnWriteString'. -/
def fnWriteStringUptoCard : Claim7 := { stood := { row := fnWriteStringUptoRow, standIns := [], harness := (true, "be757ceac0d783a3393dc06f5cef099b9ffd24e909e5ea57243e49e9d3cb851f"), looks := false }, kinds := [], alts := [], laidByText := true, laidKinds := [.data, .pinned], laidTests := true, laidLooks := .later }
def FnWriteStringUptoCardSaid : Prop := Claim7.holds Tryd.pinned (.plain (OpenSpec.upto fnWriteStringSpec)) fnWriteStringUptoCard

/-- THE SECOND FORM's CARD OF 'laws.FnWriteArrayFloat'. -/
def fnWriteArrayFloatUptoCard : Claim7 := { stood := { row := fnWriteArrayFloatUptoRow, standIns := [], harness := (true, "be757ceac0d783a3393dc06f5cef099b9ffd24e909e5ea57243e49e9d3cb851f"), looks := false }, kinds := [], alts := [], laidByText := true, laidKinds := [.data, .pinned], laidTests := true, laidLooks := .later }
def FnWriteArrayFloatUptoCardSaid : Prop := Claim7.holds Tryd.pinned (.plain (OpenSpec.upto fnWriteArrayFloatSpec)) fnWriteArrayFloatUptoCard

/-- THE SECOND FORM's CARD OF 'laws.FnGetNil'. -/
def fnGetNilUptoCard : Claim7 := { stood := { row := fnGetNilUptoRow, standIns := [], harness := (true, "be757ceac0d783a3393dc06f5cef099b9ffd24e909e5ea57243e49e9d3cb851f"), looks := false }, kinds := [], alts := [], laidByText := true, laidKinds := [.wider], laidTests := true, laidLooks := .later }
def FnGetNilUptoCardSaid : Prop := Claim7.holds Tryd.pinned (.plain (OpenSpec.upto fnGetNilSpec)) fnGetNilUptoCard
end Rows
end Go.Proofs.YtmaofopbhlcgkaaDoor
