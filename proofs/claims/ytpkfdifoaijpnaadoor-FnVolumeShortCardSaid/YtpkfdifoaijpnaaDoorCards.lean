/-
  DERIVED. GIVEN WITH THE SEED: THE CARDS: each row of YtpkfdifoaijpnaaDoorRows.lean that lists a variable, with what it lists TIED to the program's text (the seventh form; the later family's looks); each row that meets fmt, with fmt's text TOLD by the authors' own Lean function (tested against real Go, not proved from fmt's source: count such statements apart). THE CARD IS WHAT COUNTS. Prove the row's statement (the work); the ties are given (YtpkfdifoaijpnaaDoorTie.lean); close each card by the builder's one call (the guide's Derived/Test/ToyasCard.lean, 'card_holds'). Laid BY PROGRAM, IN A SANDBOX (cutbox-door.mjs). By AI agents, Wed Nov 11 2026. No macro, syntax, notation, axiom, sorry.
-/
import Derived.Test.YtpkfdifoaijpnaaDoorRows
import GoSem.ClaimSeven
namespace Go.Proofs.YtpkfdifoaijpnaaDoor
namespace Rows

/-- THE TIED CARD OF 'laws.FnProjectNameRight'. -/
def fnProjectNameRightCard : Claim7 := { stood := { row := fnProjectNameRightRow, standIns := [], harness := (true, "135cd144fd05a3025309780a7483a1f775e11e7917652c43ccb05c902578497e"), looks := false }, kinds := [], alts := [], laidByText := true, laidKinds := [.data, .pinned, .pinned], laidTests := true, laidLooks := .later }
def FnProjectNameRightCardSaid : Prop := Claim7.holds Tryd.pinned (.plain (OpenSpec.ofChange fnProjectNameRightSpec)) fnProjectNameRightCard

/-- THE TIED CARD OF 'laws.FnVolumeNone'. -/
def fnVolumeNoneCard : Claim7 := { stood := { row := fnVolumeNoneRow, standIns := [], harness := (true, "135cd144fd05a3025309780a7483a1f775e11e7917652c43ccb05c902578497e"), looks := false }, kinds := [], alts := [], laidByText := true, laidKinds := [.data, .data, .pinned, .pinned], laidTests := true, laidLooks := .later }
def FnVolumeNoneCardSaid : Prop := Claim7.holds Tryd.pinned (.plain (OpenSpec.ofChange fnVolumeNoneSpec)) fnVolumeNoneCard

/-- THE TIED CARD OF 'laws.FnVolumeShort'. -/
def fnVolumeShortCard : Claim7 := { stood := { row := fnVolumeShortRow, standIns := [], harness := (true, "135cd144fd05a3025309780a7483a1f775e11e7917652c43ccb05c902578497e"), looks := false }, kinds := [], alts := [], laidByText := true, laidKinds := [.data, .data, .pinned, .pinned], laidTests := true, laidLooks := .later }
def FnVolumeShortCardSaid : Prop := Claim7.holds Tryd.pinned (.plain (OpenSpec.ofChange fnVolumeShortSpec)) fnVolumeShortCard

/-- THE TIED CARD OF 'laws.FnWindowsDrive'. -/
def fnWindowsDriveCard : Claim7 := { stood := { row := fnWindowsDriveRow, standIns := [], harness := (true, "135cd144fd05a3025309780a7483a1f775e11e7917652c43ccb05c902578497e"), looks := false }, kinds := [], alts := [], laidByText := true, laidKinds := [.data, .data, .pinned, .pinned], laidTests := true, laidLooks := .later }
def FnWindowsDriveCardSaid : Prop := Claim7.holds Tryd.pinned (.plain (OpenSpec.ofChange fnWindowsDriveSpec)) fnWindowsDriveCard

/-- THE SECOND FORM's CARD OF 'laws.FnProjectNameRight'. -/
def fnProjectNameRightUptoCard : Claim7 := { stood := { row := fnProjectNameRightUptoRow, standIns := [], harness := (true, "135cd144fd05a3025309780a7483a1f775e11e7917652c43ccb05c902578497e"), looks := false }, kinds := [], alts := [], laidByText := true, laidKinds := [.data, .pinned, .pinned], laidTests := true, laidLooks := .later }
def FnProjectNameRightUptoCardSaid : Prop := Claim7.holds Tryd.pinned (.plain (OpenSpec.upto fnProjectNameRightSpec)) fnProjectNameRightUptoCard

/-- THE SECOND FORM's CARD OF 'laws.FnVolumeNone'. -/
def fnVolumeNoneUptoCard : Claim7 := { stood := { row := fnVolumeNoneUptoRow, standIns := [], harness := (true, "135cd144fd05a3025309780a7483a1f775e11e7917652c43ccb05c902578497e"), looks := false }, kinds := [], alts := [], laidByText := true, laidKinds := [.data, .data, .pinned, .pinned], laidTests := true, laidLooks := .later }
def FnVolumeNoneUptoCardSaid : Prop := Claim7.holds Tryd.pinned (.plain (OpenSpec.upto fnVolumeNoneSpec)) fnVolumeNoneUptoCard

/-- THE SECOND FORM's CARD OF 'laws.FnVolumeShort'. -/
def fnVolumeShortUptoCard : Claim7 := { stood := { row := fnVolumeShortUptoRow, standIns := [], harness := (true, "135cd144fd05a3025309780a7483a1f775e11e7917652c43ccb05c902578497e"), looks := false }, kinds := [], alts := [], laidByText := true, laidKinds := [.data, .data, .pinned, .pinned], laidTests := true, laidLooks := .later }
def FnVolumeShortUptoCardSaid : Prop := Claim7.holds Tryd.pinned (.plain (OpenSpec.upto fnVolumeShortSpec)) fnVolumeShortUptoCard

/-- THE SECOND FORM's CARD OF 'laws.FnWindowsDrive'. -/
def fnWindowsDriveUptoCard : Claim7 := { stood := { row := fnWindowsDriveUptoRow, standIns := [], harness := (true, "135cd144fd05a3025309780a7483a1f775e11e7917652c43ccb05c902578497e"), looks := false }, kinds := [], alts := [], laidByText := true, laidKinds := [.data, .data, .pinned, .pinned], laidTests := true, laidLooks := .later }
def FnWindowsDriveUptoCardSaid : Prop := Claim7.holds Tryd.pinned (.plain (OpenSpec.upto fnWindowsDriveSpec)) fnWindowsDriveUptoCard
end Rows
end Go.Proofs.YtpkfdifoaijpnaaDoor
