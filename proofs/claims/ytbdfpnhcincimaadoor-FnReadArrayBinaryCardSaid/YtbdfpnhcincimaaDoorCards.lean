/-
  DERIVED. GIVEN WITH THE SEED: THE CARDS: each row of YtbdfpnhcincimaaDoorRows.lean that lists a variable, with what it lists TIED to the program's text (the seventh form; the later family's looks); each row that meets fmt, with fmt's text TOLD by the authors' own Lean function (tested against real Go, not proved from fmt's source: count such statements apart). THE CARD IS WHAT COUNTS. Prove the row's statement (the work); the ties are given (YtbdfpnhcincimaaDoorTie.lean); close each card by the builder's one call (the guide's Derived/Test/ToyasCard.lean, 'card_holds'). Laid BY PROGRAM, IN A SANDBOX (cutbox-door.mjs). By AI agents, Wed Nov 11 2026. No macro, syntax, notation, axiom, sorry.
-/
import Derived.Test.YtbdfpnhcincimaaDoorRows
import GoSem.ClaimSeven
namespace Go.Proofs.YtbdfpnhcincimaaDoor
namespace Rows

/-- THE TIED CARD OF 'laws.FnReadLong'. -/
def fnReadLongCard : Claim7 := { stood := { row := fnReadLongRow, standIns := [], harness := (true, "5eeab1a4edc70ea446e75cbd84de2e53eb93f88398978a7048b959b144bb6546"), looks := false }, kinds := [], alts := [], laidByText := true, laidKinds := [.data, .sentinel, .pinned], laidTests := true, laidLooks := .later }
def FnReadLongCardSaid : Prop := Claim7.holds Tryd.pinned (.plain (OpenSpec.ofChange fnReadLongSpec)) fnReadLongCard

/-- THE TIED CARD OF 'laws.FnReadUint'. -/
def fnReadUintCard : Claim7 := { stood := { row := fnReadUintRow, standIns := [], harness := (true, "5eeab1a4edc70ea446e75cbd84de2e53eb93f88398978a7048b959b144bb6546"), looks := false }, kinds := [], alts := [], laidByText := true, laidKinds := [.data, .sentinel, .pinned], laidTests := true, laidLooks := .later }
def FnReadUintCardSaid : Prop := Claim7.holds Tryd.pinned (.plain (OpenSpec.ofChange fnReadUintSpec)) fnReadUintCard

/-- THE TIED CARD OF 'laws.FnReadLifetime'. -/
def fnReadLifetimeCard : Claim7 := { stood := { row := fnReadLifetimeRow, standIns := [], harness := (true, "5eeab1a4edc70ea446e75cbd84de2e53eb93f88398978a7048b959b144bb6546"), looks := false }, kinds := [], alts := [], laidByText := true, laidKinds := [.sentinel], laidTests := true, laidLooks := .later }
def FnReadLifetimeCardSaid : Prop := Claim7.holds Tryd.pinned (.plain (OpenSpec.ofChange fnReadLifetimeSpec)) fnReadLifetimeCard

/-- THE TIED CARD OF 'laws.FnReadMapHead'. -/
def fnReadMapHeadCard : Claim7 := { stood := { row := fnReadMapHeadRow, standIns := [], harness := (true, "5eeab1a4edc70ea446e75cbd84de2e53eb93f88398978a7048b959b144bb6546"), looks := false }, kinds := [], alts := [], laidByText := true, laidKinds := [.data, .sentinel, .pinned], laidTests := true, laidLooks := .later }
def FnReadMapHeadCardSaid : Prop := Claim7.holds Tryd.pinned (.plain (OpenSpec.ofChange fnReadMapHeadSpec)) fnReadMapHeadCard

/-- THE TIED CARD OF 'laws.FnReadArrayByte'. -/
def fnReadArrayByteCard : Claim7 := { stood := { row := fnReadArrayByteRow, standIns := [], harness := (true, "5eeab1a4edc70ea446e75cbd84de2e53eb93f88398978a7048b959b144bb6546"), looks := false }, kinds := [], alts := [], laidByText := true, laidKinds := [.data, .sentinel, .pinned], laidTests := true, laidLooks := .later }
def FnReadArrayByteCardSaid : Prop := Claim7.holds Tryd.pinned (.plain (OpenSpec.ofChange fnReadArrayByteSpec)) fnReadArrayByteCard

/-- THE TIED CARD OF 'laws.FnReadArrayBoolean'. -/
def fnReadArrayBooleanCard : Claim7 := { stood := { row := fnReadArrayBooleanRow, standIns := [], harness := (true, "5eeab1a4edc70ea446e75cbd84de2e53eb93f88398978a7048b959b144bb6546"), looks := false }, kinds := [], alts := [], laidByText := true, laidKinds := [.data, .sentinel, .pinned], laidTests := true, laidLooks := .later }
def FnReadArrayBooleanCardSaid : Prop := Claim7.holds Tryd.pinned (.plain (OpenSpec.ofChange fnReadArrayBooleanSpec)) fnReadArrayBooleanCard

/-- THE TIED CARD OF 'laws.FnReadArrayDouble'. -/
def fnReadArrayDoubleCard : Claim7 := { stood := { row := fnReadArrayDoubleRow, standIns := [], harness := (true, "5eeab1a4edc70ea446e75cbd84de2e53eb93f88398978a7048b959b144bb6546"), looks := false }, kinds := [], alts := [], laidByText := true, laidKinds := [.data, .sentinel, .pinned], laidTests := true, laidLooks := .later }
def FnReadArrayDoubleCardSaid : Prop := Claim7.holds Tryd.pinned (.plain (OpenSpec.ofChange fnReadArrayDoubleSpec)) fnReadArrayDoubleCard

/-- THE TIED CARD OF 'laws.FnReadInteger'. -/
def fnReadIntegerCard : Claim7 := { stood := { row := fnReadIntegerRow, standIns := [], harness := (true, "5eeab1a4edc70ea446e75cbd84de2e53eb93f88398978a7048b959b144bb6546"), looks := false }, kinds := [], alts := [], laidByText := true, laidKinds := [.data, .sentinel, .pinned], laidTests := true, laidLooks := .later }
def FnReadIntegerCardSaid : Prop := Claim7.holds Tryd.pinned (.plain (OpenSpec.ofChange fnReadIntegerSpec)) fnReadIntegerCard

/-- THE TIED CARD OF 'laws.FnReadArrayBinary'. -/
def fnReadArrayBinaryCard : Claim7 := { stood := { row := fnReadArrayBinaryRow, standIns := [], harness := (true, "5eeab1a4edc70ea446e75cbd84de2e53eb93f88398978a7048b959b144bb6546"), looks := false }, kinds := [], alts := [], laidByText := true, laidKinds := [.data, .sentinel, .pinned], laidTests := true, laidLooks := .later }
def FnReadArrayBinaryCardSaid : Prop := Claim7.holds Tryd.pinned (.plain (OpenSpec.ofChange fnReadArrayBinarySpec)) fnReadArrayBinaryCard

/-- THE SECOND FORM's CARD OF 'laws.FnReadLong'. -/
def fnReadLongUptoCard : Claim7 := { stood := { row := fnReadLongUptoRow, standIns := [], harness := (true, "5eeab1a4edc70ea446e75cbd84de2e53eb93f88398978a7048b959b144bb6546"), looks := false }, kinds := [], alts := [], laidByText := true, laidKinds := [.data, .sentinel, .pinned], laidTests := true, laidLooks := .later }
def FnReadLongUptoCardSaid : Prop := Claim7.holds Tryd.pinned (.plain (OpenSpec.upto fnReadLongSpec)) fnReadLongUptoCard

/-- THE SECOND FORM's CARD OF 'laws.FnReadUint'. -/
def fnReadUintUptoCard : Claim7 := { stood := { row := fnReadUintUptoRow, standIns := [], harness := (true, "5eeab1a4edc70ea446e75cbd84de2e53eb93f88398978a7048b959b144bb6546"), looks := false }, kinds := [], alts := [], laidByText := true, laidKinds := [.data, .sentinel, .pinned], laidTests := true, laidLooks := .later }
def FnReadUintUptoCardSaid : Prop := Claim7.holds Tryd.pinned (.plain (OpenSpec.upto fnReadUintSpec)) fnReadUintUptoCard

/-- THE SECOND FORM's CARD OF 'laws.FnReadLifetime'. -/
def fnReadLifetimeUptoCard : Claim7 := { stood := { row := fnReadLifetimeUptoRow, standIns := [], harness := (true, "5eeab1a4edc70ea446e75cbd84de2e53eb93f88398978a7048b959b144bb6546"), looks := false }, kinds := [], alts := [], laidByText := true, laidKinds := [.sentinel], laidTests := true, laidLooks := .later }
def FnReadLifetimeUptoCardSaid : Prop := Claim7.holds Tryd.pinned (.plain (OpenSpec.upto fnReadLifetimeSpec)) fnReadLifetimeUptoCard

/-- THE SECOND FORM's CARD OF 'laws.FnReadMapHead'. -/
def fnReadMapHeadUptoCard : Claim7 := { stood := { row := fnReadMapHeadUptoRow, standIns := [], harness := (true, "5eeab1a4edc70ea446e75cbd84de2e53eb93f88398978a7048b959b144bb6546"), looks := false }, kinds := [], alts := [], laidByText := true, laidKinds := [.data, .sentinel, .pinned], laidTests := true, laidLooks := .later }
def FnReadMapHeadUptoCardSaid : Prop := Claim7.holds Tryd.pinned (.plain (OpenSpec.upto fnReadMapHeadSpec)) fnReadMapHeadUptoCard

/-- THE SECOND FORM's CARD OF 'laws.FnReadArrayByte'. -/
def fnReadArrayByteUptoCard : Claim7 := { stood := { row := fnReadArrayByteUptoRow, standIns := [], harness := (true, "5eeab1a4edc70ea446e75cbd84de2e53eb93f88398978a7048b959b144bb6546"), looks := false }, kinds := [], alts := [], laidByText := true, laidKinds := [.data, .sentinel, .pinned], laidTests := true, laidLooks := .later }
def FnReadArrayByteUptoCardSaid : Prop := Claim7.holds Tryd.pinned (.plain (OpenSpec.upto fnReadArrayByteSpec)) fnReadArrayByteUptoCard

/-- THE SECOND FORM's CARD OF 'laws.FnReadArrayBoolean'. -/
def fnReadArrayBooleanUptoCard : Claim7 := { stood := { row := fnReadArrayBooleanUptoRow, standIns := [], harness := (true, "5eeab1a4edc70ea446e75cbd84de2e53eb93f88398978a7048b959b144bb6546"), looks := false }, kinds := [], alts := [], laidByText := true, laidKinds := [.data, .sentinel, .pinned], laidTests := true, laidLooks := .later }
def FnReadArrayBooleanUptoCardSaid : Prop := Claim7.holds Tryd.pinned (.plain (OpenSpec.upto fnReadArrayBooleanSpec)) fnReadArrayBooleanUptoCard

/-- THE SECOND FORM's CARD OF 'laws.FnReadArrayDouble'. -/
def fnReadArrayDoubleUptoCard : Claim7 := { stood := { row := fnReadArrayDoubleUptoRow, standIns := [], harness := (true, "5eeab1a4edc70ea446e75cbd84de2e53eb93f88398978a7048b959b144bb6546"), looks := false }, kinds := [], alts := [], laidByText := true, laidKinds := [.data, .sentinel, .pinned], laidTests := true, laidLooks := .later }
def FnReadArrayDoubleUptoCardSaid : Prop := Claim7.holds Tryd.pinned (.plain (OpenSpec.upto fnReadArrayDoubleSpec)) fnReadArrayDoubleUptoCard

/-- THE SECOND FORM's CARD OF 'laws.FnReadInteger'. -/
def fnReadIntegerUptoCard : Claim7 := { stood := { row := fnReadIntegerUptoRow, standIns := [], harness := (true, "5eeab1a4edc70ea446e75cbd84de2e53eb93f88398978a7048b959b144bb6546"), looks := false }, kinds := [], alts := [], laidByText := true, laidKinds := [.data, .sentinel, .pinned], laidTests := true, laidLooks := .later }
def FnReadIntegerUptoCardSaid : Prop := Claim7.holds Tryd.pinned (.plain (OpenSpec.upto fnReadIntegerSpec)) fnReadIntegerUptoCard

/-- THE SECOND FORM's CARD OF 'laws.FnReadArrayBinary'. -/
def fnReadArrayBinaryUptoCard : Claim7 := { stood := { row := fnReadArrayBinaryUptoRow, standIns := [], harness := (true, "5eeab1a4edc70ea446e75cbd84de2e53eb93f88398978a7048b959b144bb6546"), looks := false }, kinds := [], alts := [], laidByText := true, laidKinds := [.data, .sentinel, .pinned], laidTests := true, laidLooks := .later }
def FnReadArrayBinaryUptoCardSaid : Prop := Claim7.holds Tryd.pinned (.plain (OpenSpec.upto fnReadArrayBinarySpec)) fnReadArrayBinaryUptoCard
end Rows
end Go.Proofs.YtbdfpnhcincimaaDoor
