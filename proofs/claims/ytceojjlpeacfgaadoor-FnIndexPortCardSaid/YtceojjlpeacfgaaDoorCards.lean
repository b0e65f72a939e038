/-
  DERIVED. GIVEN WITH THE SEED: THE CARDS: each row of YtceojjlpeacfgaaDoorRows.lean that lists a variable, with what it lists TIED to the program's text (the seventh form; the later family's looks); each row that meets fmt, with fmt's text TOLD by the authors' own Lean function (tested against real Go, not proved from fmt's source: count such statements apart). THE CARD IS WHAT COUNTS. Prove the row's statement (the work); the ties are given (YtceojjlpeacfgaaDoorTie.lean); close each card by the builder's one call (the guide's Derived/Test/ToyasCard.lean, 'card_holds'). Laid BY PROGRAM, IN A SANDBOX (cutbox-door.mjs). By AI agents, Wed Nov 11 2026. No macro, syntax, notation, axiom, sorry.
-/
import Derived.Test.YtceojjlpeacfgaaDoorRows
import GoSem.ClaimSeven
namespace Go.Proofs.YtceojjlpeacfgaaDoor
namespace Rows

/-- THE TIED CARD OF 'laws.FnIndexPort'. -/
def fnIndexPortCard : Claim7 := { stood := { row := fnIndexPortRow, standIns := [], harness := (true, "30e0b2158aa8cad1cceceaa8ce86f26d1ae757b22aae30066a85ff10e9d7d3af"), looks := true }, kinds := [], alts := [], laidByText := true, laidKinds := [.data, .data, .data], laidTests := true, laidLooks := .later }
def FnIndexPortCardSaid : Prop := Claim7.holds Tryd.pinned (.plain (OpenSpec.ofChange fnIndexPortSpec)) fnIndexPortCard

/-- THE SECOND FORM's CARD OF 'laws.FnIndexPort'. -/
def fnIndexPortUptoCard : Claim7 := { stood := { row := fnIndexPortUptoRow, standIns := [], harness := (true, "30e0b2158aa8cad1cceceaa8ce86f26d1ae757b22aae30066a85ff10e9d7d3af"), looks := true }, kinds := [], alts := [], laidByText := true, laidKinds := [.data, .data, .data], laidTests := true, laidLooks := .later }
def FnIndexPortUptoCardSaid : Prop := Claim7.holds Tryd.pinned (.plain (OpenSpec.upto fnIndexPortSpec)) fnIndexPortUptoCard
end Rows
end Go.Proofs.YtceojjlpeacfgaaDoor
