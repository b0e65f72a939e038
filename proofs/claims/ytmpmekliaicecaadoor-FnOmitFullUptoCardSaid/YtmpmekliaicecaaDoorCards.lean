/-
  DERIVED. GIVEN WITH THE SEED: THE CARDS: each row of YtmpmekliaicecaaDoorRows.lean that lists a variable, with what it lists TIED to the program's text (the seventh form; the later family's looks); each row that meets fmt, with fmt's text TOLD by the authors' own Lean function (tested against real Go, not proved from fmt's source: count such statements apart). THE CARD IS WHAT COUNTS. Prove the row's statement (the work); the ties are given (YtmpmekliaicecaaDoorTie.lean); close each card by the builder's one call (the guide's Derived/Test/ToyasCard.lean, 'card_holds'). Laid BY PROGRAM, IN A SANDBOX (cutbox-door.mjs). By AI agents, Wed Nov 11 2026. No macro, syntax, notation, axiom, sorry.
-/
import Derived.Test.YtmpmekliaicecaaDoorRows
import GoSem.ClaimSeven
namespace Go.Proofs.YtmpmekliaicecaaDoor
namespace Rows

/-- THE TIED CARD OF 'laws.FnOmitFull'. -/
def fnOmitFullCard : Claim7 := { stood := { row := fnOmitFullRow, standIns := [], harness := (true, "afd7db774eab6d6d7b495a72353248968a2129a2b1bdceecef7389102bb08955"), looks := true }, kinds := [], alts := [], laidByText := true, laidKinds := [.data, .pinned, .pinned], laidTests := true, laidLooks := .later }
def FnOmitFullCardSaid : Prop := Claim7.holds Tryd.pinned (.plain (OpenSpec.ofChange fnOmitFullSpec)) fnOmitFullCard

/-- THE SECOND FORM's CARD OF 'laws.FnOmitFull'. -/
def fnOmitFullUptoCard : Claim7 := { stood := { row := fnOmitFullUptoRow, standIns := [], harness := (true, "afd7db774eab6d6d7b495a72353248968a2129a2b1bdceecef7389102bb08955"), looks := true }, kinds := [], alts := [], laidByText := true, laidKinds := [.data, .pinned, .pinned], laidTests := true, laidLooks := .later }
def FnOmitFullUptoCardSaid : Prop := Claim7.holds Tryd.pinned (.plain (OpenSpec.upto fnOmitFullSpec)) fnOmitFullUptoCard
end Rows
end Go.Proofs.YtmpmekliaicecaaDoor
