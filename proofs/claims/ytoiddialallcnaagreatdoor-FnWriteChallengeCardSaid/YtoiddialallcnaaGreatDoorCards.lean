/-
  DERIVED. GIVEN WITH THE SEED: THE CARDS: each row of YtoiddialallcnaaGreatDoorRows.lean that lists a variable, with what it lists TIED to the program's text (the seventh form; the later family's looks); each row that meets fmt, with fmt's text TOLD by the authors' own Lean function (tested against real Go, not proved from fmt's source: count such statements apart). THE CARD IS WHAT COUNTS. Prove the row's statement (the work); the ties are given (YtoiddialallcnaaGreatDoorTie.lean); close each card by the builder's one call (the guide's Derived/Test/ToyasCard.lean, 'card_holds'). Laid BY PROGRAM, IN A SANDBOX (cutbox-door.mjs). By AI agents, Wed Nov 11 2026. No macro, syntax, notation, axiom, sorry.
-/
import Derived.Test.YtoiddialallcnaaGreatDoorRows
import GoSem.ClaimSeven
namespace Go.Proofs.YtoiddialallcnaaGreatDoor
namespace Rows

/-- THE TIED CARD OF 'laws.FnWriteUshort'. -/
def fnWriteUshortCard : Claim7 := { stood := { row := fnWriteUshortRow, standIns := [], harness := (true, "0d245d1f0f8b49600e22c841050f41e666114393e19e887d9c3e694a84915258"), looks := true }, kinds := [], alts := [], laidByText := true, laidKinds := [.data, .pinned], laidTests := true, laidLooks := .later }
def FnWriteUshortCardSaid : Prop := Claim7.holds Tryz.pinned (.plain (OpenSpec.ofChange fnWriteUshortSpec)) fnWriteUshortCard

/-- THE TIED CARD OF 'laws.FnWriteChallenge'. -/
def fnWriteChallengeCard : Claim7 := { stood := { row := fnWriteChallengeRow, standIns := [], harness := (true, "0d245d1f0f8b49600e22c841050f41e666114393e19e887d9c3e694a84915258"), looks := true }, kinds := [], alts := [], laidByText := true, laidKinds := [.data, .pinned], laidTests := true, laidLooks := .later }
def FnWriteChallengeCardSaid : Prop := Claim7.holds Tryz.pinned (.plain (OpenSpec.ofChange fnWriteChallengeSpec)) fnWriteChallengeCard

/-- THE SECOND FORM's CARD OF 'laws.FnWriteUshort'. -/
def fnWriteUshortUptoCard : Claim7 := { stood := { row := fnWriteUshortUptoRow, standIns := [], harness := (true, "0d245d1f0f8b49600e22c841050f41e666114393e19e887d9c3e694a84915258"), looks := true }, kinds := [], alts := [], laidByText := true, laidKinds := [.data, .pinned], laidTests := true, laidLooks := .later }
def FnWriteUshortUptoCardSaid : Prop := Claim7.holds Tryz.pinned (.plain (OpenSpec.upto fnWriteUshortSpec)) fnWriteUshortUptoCard

/-- THE SECOND FORM's CARD OF 'laws.FnWriteChallenge'. -/
def fnWriteChallengeUptoCard : Claim7 := { stood := { row := fnWriteChallengeUptoRow, standIns := [], harness := (true, "0d245d1f0f8b49600e22c841050f41e666114393e19e887d9c3e694a84915258"), looks := true }, kinds := [], alts := [], laidByText := true, laidKinds := [.data, .pinned], laidTests := true, laidLooks := .later }
def FnWriteChallengeUptoCardSaid : Prop := Claim7.holds Tryz.pinned (.plain (OpenSpec.upto fnWriteChallengeSpec)) fnWriteChallengeUptoCard
end Rows
end Go.Proofs.YtoiddialallcnaaGreatDoor
