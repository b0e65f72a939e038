/-
  DERIVED. GIVEN WITH THE SEED: THE CARDS: each row of YtaembebbaejfiaaGreatDoorRows.lean that lists a variable, with what it lists TIED to the program's text (the seventh form; the later family's looks); each row that meets fmt, with fmt's text TOLD by the authors' own Lean function (tested against real Go, not proved from fmt's source: count such statements apart). THE CARD IS WHAT COUNTS. Prove the row's statement (the work); the ties are given (YtaembebbaejfiaaGreatDoorTie.lean); close each card by the builder's one call (the guide's Derived/Test/ToyasCard.lean, 'card_holds'). Laid BY PROGRAM, IN A SANDBOX (cutbox-door.mjs). By AI agents, Wed Nov 11 2026. No macro, syntax, notation, axiom, sorry.
-/
import Derived.Test.YtaembebbaejfiaaGreatDoorRows
import GoSem.ClaimSeven
namespace Go.Proofs.YtaembebbaejfiaaGreatDoor
namespace Rows

/-- THE TIED CARD OF 'laws.FnTransformBuild'. -/
def fnTransformBuildCard : Claim7 := { stood := { row := fnTransformBuildRow, standIns := [], harness := (true, "33aa7e6e5dd986cee515a60e0811fc624b0f7c7936ada6133f1f81de26746857"), looks := true }, kinds := [], alts := [], laidByText := true, laidKinds := [.data, .data, .data], laidTests := true, laidLooks := .later }
def FnTransformBuildCardSaid : Prop := Claim7.holds Tryz.pinned (.plain (OpenSpec.ofChange fnTransformBuildSpec)) fnTransformBuildCard

/-- THE TIED CARD OF 'laws.FnTransformExtends'. -/
def fnTransformExtendsCard : Claim7 := { stood := { row := fnTransformExtendsRow, standIns := [], harness := (true, "33aa7e6e5dd986cee515a60e0811fc624b0f7c7936ada6133f1f81de26746857"), looks := true }, kinds := [], alts := [], laidByText := true, laidKinds := [.data, .data, .data], laidTests := true, laidLooks := .later }
def FnTransformExtendsCardSaid : Prop := Claim7.holds Tryz.pinned (.plain (OpenSpec.ofChange fnTransformExtendsSpec)) fnTransformExtendsCard

/-- THE SECOND FORM's CARD OF 'laws.FnTransformBuild'. -/
def fnTransformBuildUptoCard : Claim7 := { stood := { row := fnTransformBuildUptoRow, standIns := [], harness := (true, "33aa7e6e5dd986cee515a60e0811fc624b0f7c7936ada6133f1f81de26746857"), looks := true }, kinds := [], alts := [], laidByText := true, laidKinds := [.data, .data, .data], laidTests := true, laidLooks := .later }
def FnTransformBuildUptoCardSaid : Prop := Claim7.holds Tryz.pinned (.plain (OpenSpec.upto fnTransformBuildSpec)) fnTransformBuildUptoCard

/-- THE SECOND FORM's CARD OF 'laws.FnTransformExtends'. -/
def fnTransformExtendsUptoCard : Claim7 := { stood := { row := fnTransformExtendsUptoRow, standIns := [], harness := (true, "33aa7e6e5dd986cee515a60e0811fc624b0f7c7936ada6133f1f81de26746857"), looks := true }, kinds := [], alts := [], laidByText := true, laidKinds := [.data, .data, .data], laidTests := true, laidLooks := .later }
def FnTransformExtendsUptoCardSaid : Prop := Claim7.holds Tryz.pinned (.plain (OpenSpec.upto fnTransformExtendsSpec)) fnTransformExtendsUptoCard
end Rows
end Go.Proofs.YtaembebbaejfiaaGreatDoor
