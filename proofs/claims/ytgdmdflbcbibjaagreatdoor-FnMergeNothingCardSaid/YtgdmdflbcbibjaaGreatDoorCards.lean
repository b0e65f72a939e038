/-
  DERIVED. GIVEN WITH THE SEED: THE CARDS: each row of YtgdmdflbcbibjaaGreatDoorRows.lean that lists a variable, with what it lists TIED to the program's text (the seventh form; the later family's looks); each row that meets fmt, with fmt's text TOLD by the authors' own Lean function (tested against real Go, not proved from fmt's source: count such statements apart). THE CARD IS WHAT COUNTS. Prove the row's statement (the work); the ties are given (YtgdmdflbcbibjaaGreatDoorTie.lean); close each card by the builder's one call (the guide's Derived/Test/ToyasCard.lean, 'card_holds'). Laid BY PROGRAM, IN A SANDBOX (cutbox-door.mjs). By AI agents, Wed Nov 11 2026. No macro, syntax, notation, axiom, sorry.
-/
import Derived.Test.YtgdmdflbcbibjaaGreatDoorRows
import GoSem.ClaimSeven
namespace Go.Proofs.YtgdmdflbcbibjaaGreatDoor
namespace Rows

/-- THE TIED CARD OF 'laws.FnMergeReplaced'. -/
def fnMergeReplacedCard : Claim7 := { stood := { row := fnMergeReplacedRow, standIns := [], harness := (true, "e74bc02fb0502a3a89a5c67a37dbbc4c8eabb719400714e55936e4adcbcb9d3c"), looks := true }, kinds := [], alts := [], laidByText := true, laidKinds := [.data, .data, .data], laidTests := true, laidLooks := .later }
def FnMergeReplacedCardSaid : Prop := Claim7.holds Tryz.pinned (.plain (OpenSpec.ofChange fnMergeReplacedSpec)) fnMergeReplacedCard

/-- THE TIED CARD OF 'laws.FnMergeNothing'. -/
def fnMergeNothingCard : Claim7 := { stood := { row := fnMergeNothingRow, standIns := [], harness := (true, "e74bc02fb0502a3a89a5c67a37dbbc4c8eabb719400714e55936e4adcbcb9d3c"), looks := true }, kinds := [], alts := [], laidByText := true, laidKinds := [.data, .data, .data], laidTests := true, laidLooks := .later }
def FnMergeNothingCardSaid : Prop := Claim7.holds Tryz.pinned (.plain (OpenSpec.ofChange fnMergeNothingSpec)) fnMergeNothingCard

/-- THE SECOND FORM's CARD OF 'laws.FnMergeReplaced'. -/
def fnMergeReplacedUptoCard : Claim7 := { stood := { row := fnMergeReplacedUptoRow, standIns := [], harness := (true, "e74bc02fb0502a3a89a5c67a37dbbc4c8eabb719400714e55936e4adcbcb9d3c"), looks := true }, kinds := [], alts := [], laidByText := true, laidKinds := [.data, .data, .data], laidTests := true, laidLooks := .later }
def FnMergeReplacedUptoCardSaid : Prop := Claim7.holds Tryz.pinned (.plain (OpenSpec.upto fnMergeReplacedSpec)) fnMergeReplacedUptoCard

/-- THE SECOND FORM's CARD OF 'laws.FnMergeNothing'. -/
def fnMergeNothingUptoCard : Claim7 := { stood := { row := fnMergeNothingUptoRow, standIns := [], harness := (true, "e74bc02fb0502a3a89a5c67a37dbbc4c8eabb719400714e55936e4adcbcb9d3c"), looks := true }, kinds := [], alts := [], laidByText := true, laidKinds := [.data, .data, .data], laidTests := true, laidLooks := .later }
def FnMergeNothingUptoCardSaid : Prop := Claim7.holds Tryz.pinned (.plain (OpenSpec.upto fnMergeNothingSpec)) fnMergeNothingUptoCard
end Rows
end Go.Proofs.YtgdmdflbcbibjaaGreatDoor
