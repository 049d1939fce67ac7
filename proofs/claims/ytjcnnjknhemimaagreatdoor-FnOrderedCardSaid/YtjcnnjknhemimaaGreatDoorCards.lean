/-
  DERIVED. GIVEN WITH THE SEED: THE CARDS: each row of YtjcnnjknhemimaaGreatDoorRows.lean that lists a variable, with what it lists TIED to the program's text (the seventh form; the later family's looks); each row that meets fmt, with fmt's text TOLD by the authors' own Lean function (tested against real Go, not proved from fmt's source: count such statements apart). THE CARD IS WHAT COUNTS. Prove the row's statement (the work); the ties are given (YtjcnnjknhemimaaGreatDoorTie.lean); close each card by the builder's one call (the guide's Derived/Test/ToyasCard.lean, 'card_holds'). Laid BY PROGRAM, IN A SANDBOX (cutbox-door.mjs). By AI agents, Wed Nov 11 2026. No macro, syntax, notation, axiom, sorry.
-/
import Derived.Test.YtjcnnjknhemimaaGreatDoorRows
import GoSem.ClaimSeven
namespace Go.Proofs.YtjcnnjknhemimaaGreatDoor
namespace Rows

/-- THE TIED CARD OF 'laws.FnOrdered'. -/
def fnOrderedCard : Claim7 := { stood := { row := fnOrderedRow, standIns := [], harness := (true, "d6054fe17f28bae03b4a5fae35a0729b2170d03fcf8d7bd2aad9ca1e45b72a5e"), looks := true }, kinds := [], alts := [], laidByText := true, laidKinds := [.data, .data, .widerDeep, .widerDeep, .data, .data, .data, .data, .data, .sentinel, .sentinel, .pinned, .pinned], laidTests := true, laidLooks := .later }
def FnOrderedCardSaid : Prop := Claim7.holds Tryz.pinned (.plain (OpenSpec.ofChange fnOrderedSpec)) fnOrderedCard

/-- THE SECOND FORM's CARD OF 'laws.FnOrdered'. -/
def fnOrderedUptoCard : Claim7 := { stood := { row := fnOrderedUptoRow, standIns := [], harness := (true, "d6054fe17f28bae03b4a5fae35a0729b2170d03fcf8d7bd2aad9ca1e45b72a5e"), looks := true }, kinds := [], alts := [], laidByText := true, laidKinds := [.data, .data, .widerDeep, .widerDeep, .data, .data, .data, .data, .data, .sentinel, .sentinel, .pinned, .pinned], laidTests := true, laidLooks := .later }
def FnOrderedUptoCardSaid : Prop := Claim7.holds Tryz.pinned (.plain (OpenSpec.upto fnOrderedSpec)) fnOrderedUptoCard
end Rows
end Go.Proofs.YtjcnnjknhemimaaGreatDoor
