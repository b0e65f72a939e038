/-
  DERIVED. GIVEN WITH THE SEED: THE CARDS: each row of YtjcffojiacgocaaGreatDoorRows.lean that lists a variable, with what it lists TIED to the program's text (the seventh form; the later family's looks); each row that meets fmt, with fmt's text TOLD by the authors' own Lean function (tested against real Go, not proved from fmt's source: count such statements apart). THE CARD IS WHAT COUNTS. Prove the row's statement (the work); the ties are given (YtjcffojiacgocaaGreatDoorTie.lean); close each card by the builder's one call (the guide's Derived/Test/ToyasCard.lean, 'card_holds'). Laid BY PROGRAM, IN A SANDBOX (cutbox-door.mjs). By AI agents, Wed Nov 11 2026. No macro, syntax, notation, axiom, sorry.
-/
import Derived.Test.YtjcffojiacgocaaGreatDoorRows
import GoSem.ClaimSeven
namespace Go.Proofs.YtjcffojiacgocaaGreatDoor
namespace Rows

/-- THE TIED CARD OF 'laws.FnInterpolateEscaped'. -/
def fnInterpolateEscapedCard : Claim7 := { stood := { row := fnInterpolateEscapedRow, standIns := [], harness := (true, "d126a9be2d91d9045a7f0bd8fc152c7e28f37f2e4f68beb1af8eb27954499e09"), looks := true }, kinds := [], alts := [], laidByText := true, laidKinds := [.data, .data, .data, .handle, .sentinel, .sentinel, .data], laidTests := true, laidLooks := .later }
def FnInterpolateEscapedCardSaid : Prop := Claim7.holds Tryz.pinned (.plain (OpenSpec.ofChange fnInterpolateEscapedSpec)) fnInterpolateEscapedCard

/-- THE TIED CARD OF 'laws.FnInterpolateParts'. -/
def fnInterpolatePartsCard : Claim7 := { stood := { row := fnInterpolatePartsRow, standIns := [], harness := (true, "d126a9be2d91d9045a7f0bd8fc152c7e28f37f2e4f68beb1af8eb27954499e09"), looks := true }, kinds := [], alts := [], laidByText := true, laidKinds := [.data, .data, .data, .handle, .sentinel, .sentinel, .data], laidTests := true, laidLooks := .later }
def FnInterpolatePartsCardSaid : Prop := Claim7.holds Tryz.pinned (.plain (OpenSpec.ofChange fnInterpolatePartsSpec)) fnInterpolatePartsCard

/-- THE TIED CARD OF 'laws.FnVariables'. -/
def fnVariablesCard : Claim7 := { stood := { row := fnVariablesRow, standIns := [], harness := (true, "d126a9be2d91d9045a7f0bd8fc152c7e28f37f2e4f68beb1af8eb27954499e09"), looks := true }, kinds := [], alts := [], laidByText := true, laidKinds := [.handle, .data], laidTests := true, laidLooks := .later }
def FnVariablesCardSaid : Prop := Claim7.holds Tryz.pinned (.plain (OpenSpec.ofChange fnVariablesSpec)) fnVariablesCard

/-- THE SECOND FORM's CARD OF 'laws.FnInterpolateEscaped'. -/
def fnInterpolateEscapedUptoCard : Claim7 := { stood := { row := fnInterpolateEscapedUptoRow, standIns := [], harness := (true, "d126a9be2d91d9045a7f0bd8fc152c7e28f37f2e4f68beb1af8eb27954499e09"), looks := true }, kinds := [], alts := [], laidByText := true, laidKinds := [.data, .data, .data, .handle, .sentinel, .sentinel, .data], laidTests := true, laidLooks := .later }
def FnInterpolateEscapedUptoCardSaid : Prop := Claim7.holds Tryz.pinned (.plain (OpenSpec.upto fnInterpolateEscapedSpec)) fnInterpolateEscapedUptoCard

/-- THE SECOND FORM's CARD OF 'laws.FnInterpolateParts'. -/
def fnInterpolatePartsUptoCard : Claim7 := { stood := { row := fnInterpolatePartsUptoRow, standIns := [], harness := (true, "d126a9be2d91d9045a7f0bd8fc152c7e28f37f2e4f68beb1af8eb27954499e09"), looks := true }, kinds := [], alts := [], laidByText := true, laidKinds := [.data, .data, .data, .handle, .sentinel, .sentinel, .data], laidTests := true, laidLooks := .later }
def FnInterpolatePartsUptoCardSaid : Prop := Claim7.holds Tryz.pinned (.plain (OpenSpec.upto fnInterpolatePartsSpec)) fnInterpolatePartsUptoCard

/-- THE SECOND FORM's CARD OF 'laws.FnVariables'. -/
def fnVariablesUptoCard : Claim7 := { stood := { row := fnVariablesUptoRow, standIns := [], harness := (true, "d126a9be2d91d9045a7f0bd8fc152c7e28f37f2e4f68beb1af8eb27954499e09"), looks := true }, kinds := [], alts := [], laidByText := true, laidKinds := [.handle, .data], laidTests := true, laidLooks := .later }
def FnVariablesUptoCardSaid : Prop := Claim7.holds Tryz.pinned (.plain (OpenSpec.upto fnVariablesSpec)) fnVariablesUptoCard
end Rows
end Go.Proofs.YtjcffojiacgocaaGreatDoor
