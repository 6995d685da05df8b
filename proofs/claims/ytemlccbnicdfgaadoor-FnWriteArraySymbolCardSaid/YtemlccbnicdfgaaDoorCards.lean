/-
  DERIVED. GIVEN WITH THE SEED: THE CARDS: each row of YtemlccbnicdfgaaDoorRows.lean that lists a variable, with what it lists TIED to the program's text (the seventh form; the later family's looks); each row that meets fmt, with fmt's text TOLD by the authors' own Lean function (tested against real Go, not proved from fmt's source: count such statements apart). THE CARD IS WHAT COUNTS. Prove the row's statement (the work); the ties are given (YtemlccbnicdfgaaDoorTie.lean); close each card by the builder's one call (the guide's Derived/Test/ToyasCard.lean, 'card_holds'). Laid BY PROGRAM, IN A SANDBOX (cutbox-door.mjs). By AI agents, Wed Nov 11 2026. No macro, syntax, notation, axiom, sorry.
-/
import Derived.Test.YtemlccbnicdfgaaDoorRows
import GoSem.ClaimSeven
namespace Go.Proofs.YtemlccbnicdfgaaDoor
namespace Rows

/-- THE TIED CARD OF 'laws.FnWriteArrayUlong'. -/
def fnWriteArrayUlongCard : Claim7 := { stood := { row := fnWriteArrayUlongRow, standIns := [], harness := (true, "0bce100a1a01c5ade36c128a6dcd78f86130eaa74c00fa354b6d249635082bfb"), looks := false }, kinds := [], alts := [], laidByText := true, laidKinds := [.data, .pinned], laidTests := true, laidLooks := .later }
def FnWriteArrayUlongCardSaid : Prop := Claim7.holds Tryd.pinned (.plain (OpenSpec.ofChange fnWriteArrayUlongSpec)) fnWriteArrayUlongCard

/-- THE TIED CARD OF 'laws.FnWriteArraySymbol'. -/
def fnWriteArraySymbolCard : Claim7 := { stood := { row := fnWriteArraySymbolRow, standIns := [], harness := (true, "0bce100a1a01c5ade36c128a6dcd78f86130eaa74c00fa354b6d249635082bfb"), looks := false }, kinds := [], alts := [], laidByText := true, laidKinds := [.data, .pinned], laidTests := true, laidLooks := .later }
def FnWriteArraySymbolCardSaid : Prop := Claim7.holds Tryd.pinned (.plain (OpenSpec.ofChange fnWriteArraySymbolSpec)) fnWriteArraySymbolCard

/-- THE SECOND FORM's CARD OF 'laws.FnWriteArrayUlong'. -/
def fnWriteArrayUlongUptoCard : Claim7 := { stood := { row := fnWriteArrayUlongUptoRow, standIns := [], harness := (true, "0bce100a1a01c5ade36c128a6dcd78f86130eaa74c00fa354b6d249635082bfb"), looks := false }, kinds := [], alts := [], laidByText := true, laidKinds := [.data, .pinned], laidTests := true, laidLooks := .later }
def FnWriteArrayUlongUptoCardSaid : Prop := Claim7.holds Tryd.pinned (.plain (OpenSpec.upto fnWriteArrayUlongSpec)) fnWriteArrayUlongUptoCard

/-- THE SECOND FORM's CARD OF 'laws.FnWriteArraySymbol'. -/
def fnWriteArraySymbolUptoCard : Claim7 := { stood := { row := fnWriteArraySymbolUptoRow, standIns := [], harness := (true, "0bce100a1a01c5ade36c128a6dcd78f86130eaa74c00fa354b6d249635082bfb"), looks := false }, kinds := [], alts := [], laidByText := true, laidKinds := [.data, .pinned], laidTests := true, laidLooks := .later }
def FnWriteArraySymbolUptoCardSaid : Prop := Claim7.holds Tryd.pinned (.plain (OpenSpec.upto fnWriteArraySymbolSpec)) fnWriteArraySymbolUptoCard
end Rows
end Go.Proofs.YtemlccbnicdfgaaDoor
