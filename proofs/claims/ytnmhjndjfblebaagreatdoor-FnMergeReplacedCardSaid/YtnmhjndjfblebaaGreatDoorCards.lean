/-
  DERIVED. GIVEN WITH THE SEED: THE CARDS: each row of YtnmhjndjfblebaaGreatDoorRows.lean that lists a variable, with what it lists TIED to the program's text (the seventh form; the later family's looks); each row that meets fmt, with fmt's text TOLD by the authors' own Lean function (tested against real Go, not proved from fmt's source: count such statements apart). THE CARD IS WHAT COUNTS. Prove the row's statement (the work); the ties are given (YtnmhjndjfblebaaGreatDoorTie.lean); close each card by the builder's one call (the guide's Derived/Test/ToyasCard.lean, 'card_holds'). Laid BY PROGRAM, IN A SANDBOX (cutbox-door.mjs). By AI agents, Wed Nov 11 2026. No macro, syntax, notation, axiom, sorry.
-/
import Derived.Test.YtnmhjndjfblebaaGreatDoorRows
import GoSem.ClaimSeven
namespace Go.Proofs.YtnmhjndjfblebaaGreatDoor
namespace Rows

/-- THE TIED CARD OF 'laws.FnMergeReplaced'. -/
def fnMergeReplacedCard : Claim7 := { stood := { row := fnMergeReplacedRow, standIns := [], harness := (true, "87fa2e953007c59ee86c4a06631882d3f6e9fba6f18188d9d4813388e88b4098"), looks := true }, kinds := [], alts := [], laidByText := true, laidKinds := [.data, .data, .data], laidTests := true, laidLooks := .later }
def FnMergeReplacedCardSaid : Prop := Claim7.holds Tryz.pinned (.plain (OpenSpec.ofChange fnMergeReplacedSpec)) fnMergeReplacedCard

/-- THE SECOND FORM's CARD OF 'laws.FnMergeReplaced'. -/
def fnMergeReplacedUptoCard : Claim7 := { stood := { row := fnMergeReplacedUptoRow, standIns := [], harness := (true, "87fa2e953007c59ee86c4a06631882d3f6e9fba6f18188d9d4813388e88b4098"), looks := true }, kinds := [], alts := [], laidByText := true, laidKinds := [.data, .data, .data], laidTests := true, laidLooks := .later }
def FnMergeReplacedUptoCardSaid : Prop := Claim7.holds Tryz.pinned (.plain (OpenSpec.upto fnMergeReplacedSpec)) fnMergeReplacedUptoCard
end Rows
end Go.Proofs.YtnmhjndjfblebaaGreatDoor
