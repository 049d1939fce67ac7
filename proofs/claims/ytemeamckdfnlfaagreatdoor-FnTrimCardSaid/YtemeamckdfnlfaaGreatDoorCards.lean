/-
  DERIVED. GIVEN WITH THE SEED: THE CARDS: each row of YtemeamckdfnlfaaGreatDoorRows.lean that lists a variable, with what it lists TIED to the program's text (the seventh form; the later family's looks); each row that meets fmt, with fmt's text TOLD by the authors' own Lean function (tested against real Go, not proved from fmt's source: count such statements apart). THE CARD IS WHAT COUNTS. Prove the row's statement (the work); the ties are given (YtemeamckdfnlfaaGreatDoorTie.lean); close each card by the builder's one call (the guide's Derived/Test/ToyasCard.lean, 'card_holds'). Laid BY PROGRAM, IN A SANDBOX (cutbox-door.mjs). By AI agents, Wed Nov 11 2026. No macro, syntax, notation, axiom, sorry.
-/
import Derived.Test.YtemeamckdfnlfaaGreatDoorRows
import GoSem.ClaimSeven
namespace Go.Proofs.YtemeamckdfnlfaaGreatDoor
namespace Rows

/-- THE TIED CARD OF 'laws.FnT'. -/
def fnTCard : Claim7 := { stood := { row := fnTRow, standIns := [], harness := (true, "67c0d4d6438c99107de0d45d693f2fc7463982a04b229286c7746a878b699463"), looks := true }, kinds := [], alts := [], laidByText := true, laidKinds := [.data, .data, .data, .data, .pinned, .pinned], laidTests := true, laidLooks := .later }
def FnTCardSaid : Prop := Claim7.holds Tryz.pinned (.plain (OpenSpec.ofChange fnTSpec)) fnTCard

/-- THE TIED CARD OF 'laws.FnTextOf'. -/
def fnTextOfCard : Claim7 := { stood := { row := fnTextOfRow, standIns := [], harness := (true, "67c0d4d6438c99107de0d45d693f2fc7463982a04b229286c7746a878b699463"), looks := true }, kinds := [], alts := [], laidByText := true, laidKinds := [.data, .data, .data, .data, .pinned, .pinned], laidTests := true, laidLooks := .later }
def FnTextOfCardSaid : Prop := Claim7.holds Tryz.pinned (.plain (OpenSpec.ofChange fnTextOfSpec)) fnTextOfCard

/-- THE TIED CARD OF 'laws.FnAnd'. -/
def fnAndCard : Claim7 := { stood := { row := fnAndRow, standIns := [], harness := (true, "67c0d4d6438c99107de0d45d693f2fc7463982a04b229286c7746a878b699463"), looks := true }, kinds := [], alts := [], laidByText := true, laidKinds := [.data, .data, .data, .data, .pinned, .pinned], laidTests := true, laidLooks := .later }
def FnAndCardSaid : Prop := Claim7.holds Tryz.pinned (.plain (OpenSpec.ofChange fnAndSpec)) fnAndCard

/-- THE TIED CARD OF 'laws.FnAndNumbers'. -/
def fnAndNumbersCard : Claim7 := { stood := { row := fnAndNumbersRow, standIns := [], harness := (true, "67c0d4d6438c99107de0d45d693f2fc7463982a04b229286c7746a878b699463"), looks := true }, kinds := [], alts := [], laidByText := true, laidKinds := [.data, .data, .data, .data, .pinned, .pinned], laidTests := true, laidLooks := .later }
def FnAndNumbersCardSaid : Prop := Claim7.holds Tryz.pinned (.plain (OpenSpec.ofChange fnAndNumbersSpec)) fnAndNumbersCard

/-- THE TIED CARD OF 'laws.FnTrim'. -/
def fnTrimCard : Claim7 := { stood := { row := fnTrimRow, standIns := [], harness := (true, "67c0d4d6438c99107de0d45d693f2fc7463982a04b229286c7746a878b699463"), looks := true }, kinds := [], alts := [], laidByText := true, laidKinds := [.data, .data, .data, .data, .pinned, .pinned], laidTests := true, laidLooks := .later }
def FnTrimCardSaid : Prop := Claim7.holds Tryz.pinned (.plain (OpenSpec.ofChange fnTrimSpec)) fnTrimCard

/-- THE SECOND FORM's CARD OF 'laws.FnT'. -/
def fnTUptoCard : Claim7 := { stood := { row := fnTUptoRow, standIns := [], harness := (true, "67c0d4d6438c99107de0d45d693f2fc7463982a04b229286c7746a878b699463"), looks := true }, kinds := [], alts := [], laidByText := true, laidKinds := [.data, .data, .data, .data, .pinned, .pinned], laidTests := true, laidLooks := .later }
def FnTUptoCardSaid : Prop := Claim7.holds Tryz.pinned (.plain (OpenSpec.upto fnTSpec)) fnTUptoCard

/-- THE SECOND FORM's CARD OF 'laws.FnTextOf'. -/
def fnTextOfUptoCard : Claim7 := { stood := { row := fnTextOfUptoRow, standIns := [], harness := (true, "67c0d4d6438c99107de0d45d693f2fc7463982a04b229286c7746a878b699463"), looks := true }, kinds := [], alts := [], laidByText := true, laidKinds := [.data, .data, .data, .data, .pinned, .pinned], laidTests := true, laidLooks := .later }
def FnTextOfUptoCardSaid : Prop := Claim7.holds Tryz.pinned (.plain (OpenSpec.upto fnTextOfSpec)) fnTextOfUptoCard

/-- THE SECOND FORM's CARD OF 'laws.FnAnd'. -/
def fnAndUptoCard : Claim7 := { stood := { row := fnAndUptoRow, standIns := [], harness := (true, "67c0d4d6438c99107de0d45d693f2fc7463982a04b229286c7746a878b699463"), looks := true }, kinds := [], alts := [], laidByText := true, laidKinds := [.data, .data, .data, .data, .pinned, .pinned], laidTests := true, laidLooks := .later }
def FnAndUptoCardSaid : Prop := Claim7.holds Tryz.pinned (.plain (OpenSpec.upto fnAndSpec)) fnAndUptoCard

/-- THE SECOND FORM's CARD OF 'laws.FnAndNumbers'. -/
def fnAndNumbersUptoCard : Claim7 := { stood := { row := fnAndNumbersUptoRow, standIns := [], harness := (true, "67c0d4d6438c99107de0d45d693f2fc7463982a04b229286c7746a878b699463"), looks := true }, kinds := [], alts := [], laidByText := true, laidKinds := [.data, .data, .data, .data, .pinned, .pinned], laidTests := true, laidLooks := .later }
def FnAndNumbersUptoCardSaid : Prop := Claim7.holds Tryz.pinned (.plain (OpenSpec.upto fnAndNumbersSpec)) fnAndNumbersUptoCard

/-- THE SECOND FORM's CARD OF 'laws.FnTrim'. -/
def fnTrimUptoCard : Claim7 := { stood := { row := fnTrimUptoRow, standIns := [], harness := (true, "67c0d4d6438c99107de0d45d693f2fc7463982a04b229286c7746a878b699463"), looks := true }, kinds := [], alts := [], laidByText := true, laidKinds := [.data, .data, .data, .data, .pinned, .pinned], laidTests := true, laidLooks := .later }
def FnTrimUptoCardSaid : Prop := Claim7.holds Tryz.pinned (.plain (OpenSpec.upto fnTrimSpec)) fnTrimUptoCard
end Rows
end Go.Proofs.YtemeamckdfnlfaaGreatDoor
