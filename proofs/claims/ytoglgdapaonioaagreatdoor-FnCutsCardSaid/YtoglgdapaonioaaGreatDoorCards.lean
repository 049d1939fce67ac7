/-
  DERIVED. GIVEN WITH THE SEED: THE CARDS: each row of YtoglgdapaonioaaGreatDoorRows.lean that lists a variable, with what it lists TIED to the program's text (the seventh form; the later family's looks); each row that meets fmt, with fmt's text TOLD by the authors' own Lean function (tested against real Go, not proved from fmt's source: count such statements apart). THE CARD IS WHAT COUNTS. Prove the row's statement (the work); the ties are given (YtoglgdapaonioaaGreatDoorTie.lean); close each card by the builder's one call (the guide's Derived/Test/ToyasCard.lean, 'card_holds'). Laid BY PROGRAM, IN A SANDBOX (cutbox-door.mjs). By AI agents, Wed Nov 11 2026. No macro, syntax, notation, axiom, sorry.
-/
import Derived.Test.YtoglgdapaonioaaGreatDoorRows
import GoSem.ClaimSeven
namespace Go.Proofs.YtoglgdapaonioaaGreatDoor
namespace Rows

/-- THE TIED CARD OF 'laws.FnCuts'. -/
def fnCutsCard : Claim7 := { stood := { row := fnCutsRow, standIns := [], harness := (true, "1a3f871861b65041c55c43ca5d4f7b290cc6cee3b0aff291ea577e861a3d57e8"), looks := true }, kinds := [], alts := [], laidByText := true, laidKinds := [.data, .data, .widerDeep, .widerDeep, .data, .data, .data, .data, .data, .sentinel, .sentinel, .pinned, .pinned], laidTests := true, laidLooks := .later }
def FnCutsCardSaid : Prop := Claim7.holds Tryz.pinned (.plain (OpenSpec.ofChange fnCutsSpec)) fnCutsCard

/-- THE SECOND FORM's CARD OF 'laws.FnCuts'. -/
def fnCutsUptoCard : Claim7 := { stood := { row := fnCutsUptoRow, standIns := [], harness := (true, "1a3f871861b65041c55c43ca5d4f7b290cc6cee3b0aff291ea577e861a3d57e8"), looks := true }, kinds := [], alts := [], laidByText := true, laidKinds := [.data, .data, .widerDeep, .widerDeep, .data, .data, .data, .data, .data, .sentinel, .sentinel, .pinned, .pinned], laidTests := true, laidLooks := .later }
def FnCutsUptoCardSaid : Prop := Claim7.holds Tryz.pinned (.plain (OpenSpec.upto fnCutsSpec)) fnCutsUptoCard
end Rows
end Go.Proofs.YtoglgdapaonioaaGreatDoor
