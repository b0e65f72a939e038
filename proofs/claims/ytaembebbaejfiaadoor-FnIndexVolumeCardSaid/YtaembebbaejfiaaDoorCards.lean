/-
  DERIVED. GIVEN WITH THE SEED: THE CARDS: each row of YtaembebbaejfiaaDoorRows.lean that lists a variable, with what it lists TIED to the program's text (the seventh form; the later family's looks); each row that meets fmt, with fmt's text TOLD by the authors' own Lean function (tested against real Go, not proved from fmt's source: count such statements apart). THE CARD IS WHAT COUNTS. Prove the row's statement (the work); the ties are given (YtaembebbaejfiaaDoorTie.lean); close each card by the builder's one call (the guide's Derived/Test/ToyasCard.lean, 'card_holds'). Laid BY PROGRAM, IN A SANDBOX (cutbox-door.mjs). By AI agents, Wed Nov 11 2026. No macro, syntax, notation, axiom, sorry.
-/
import Derived.Test.YtaembebbaejfiaaDoorRows
import GoSem.ClaimSeven
namespace Go.Proofs.YtaembebbaejfiaaDoor
namespace Rows

/-- THE TIED CARD OF 'laws.FnIndexMount'. -/
def fnIndexMountCard : Claim7 := { stood := { row := fnIndexMountRow, standIns := [], harness := (true, "691dbaa621f1171dd23424cf05a57a88e107109ebe0bbf9dcbfb5b895b92996f"), looks := true }, kinds := [], alts := [], laidByText := true, laidKinds := [.data, .data, .data], laidTests := true, laidLooks := .later }
def FnIndexMountCardSaid : Prop := Claim7.holds Tryd.pinned (.plain (OpenSpec.ofChange fnIndexMountSpec)) fnIndexMountCard

/-- THE TIED CARD OF 'laws.FnIndexPort'. -/
def fnIndexPortCard : Claim7 := { stood := { row := fnIndexPortRow, standIns := [], harness := (true, "691dbaa621f1171dd23424cf05a57a88e107109ebe0bbf9dcbfb5b895b92996f"), looks := true }, kinds := [], alts := [], laidByText := true, laidKinds := [.data, .data, .data], laidTests := true, laidLooks := .later }
def FnIndexPortCardSaid : Prop := Claim7.holds Tryd.pinned (.plain (OpenSpec.ofChange fnIndexPortSpec)) fnIndexPortCard

/-- THE TIED CARD OF 'laws.FnIndexVolume'. -/
def fnIndexVolumeCard : Claim7 := { stood := { row := fnIndexVolumeRow, standIns := [], harness := (true, "691dbaa621f1171dd23424cf05a57a88e107109ebe0bbf9dcbfb5b895b92996f"), looks := true }, kinds := [], alts := [], laidByText := true, laidKinds := [.data, .data, .pinned, .pinned], laidTests := true, laidLooks := .later }
def FnIndexVolumeCardSaid : Prop := Claim7.holds Tryd.pinned (.plain (OpenSpec.ofChange fnIndexVolumeSpec)) fnIndexVolumeCard

/-- THE TIED CARD OF 'laws.FnSequence'. -/
def fnSequenceCard : Claim7 := { stood := { row := fnSequenceRow, standIns := [], harness := (true, "691dbaa621f1171dd23424cf05a57a88e107109ebe0bbf9dcbfb5b895b92996f"), looks := true }, kinds := [], alts := [], laidByText := true, laidKinds := [.data, .data, .data], laidTests := true, laidLooks := .later }
def FnSequenceCardSaid : Prop := Claim7.holds Tryd.pinned (.plain (OpenSpec.ofChange fnSequenceSpec)) fnSequenceCard

/-- THE SECOND FORM's CARD OF 'laws.FnIndexMount'. -/
def fnIndexMountUptoCard : Claim7 := { stood := { row := fnIndexMountUptoRow, standIns := [], harness := (true, "691dbaa621f1171dd23424cf05a57a88e107109ebe0bbf9dcbfb5b895b92996f"), looks := true }, kinds := [], alts := [], laidByText := true, laidKinds := [.data, .data, .data], laidTests := true, laidLooks := .later }
def FnIndexMountUptoCardSaid : Prop := Claim7.holds Tryd.pinned (.plain (OpenSpec.upto fnIndexMountSpec)) fnIndexMountUptoCard

/-- THE SECOND FORM's CARD OF 'laws.FnIndexPort'. -/
def fnIndexPortUptoCard : Claim7 := { stood := { row := fnIndexPortUptoRow, standIns := [], harness := (true, "691dbaa621f1171dd23424cf05a57a88e107109ebe0bbf9dcbfb5b895b92996f"), looks := true }, kinds := [], alts := [], laidByText := true, laidKinds := [.data, .data, .data], laidTests := true, laidLooks := .later }
def FnIndexPortUptoCardSaid : Prop := Claim7.holds Tryd.pinned (.plain (OpenSpec.upto fnIndexPortSpec)) fnIndexPortUptoCard

/-- THE SECOND FORM's CARD OF 'laws.FnIndexVolume'. -/
def fnIndexVolumeUptoCard : Claim7 := { stood := { row := fnIndexVolumeUptoRow, standIns := [], harness := (true, "691dbaa621f1171dd23424cf05a57a88e107109ebe0bbf9dcbfb5b895b92996f"), looks := true }, kinds := [], alts := [], laidByText := true, laidKinds := [.data, .data, .pinned, .pinned], laidTests := true, laidLooks := .later }
def FnIndexVolumeUptoCardSaid : Prop := Claim7.holds Tryd.pinned (.plain (OpenSpec.upto fnIndexVolumeSpec)) fnIndexVolumeUptoCard

/-- THE SECOND FORM's CARD OF 'laws.FnSequence'. -/
def fnSequenceUptoCard : Claim7 := { stood := { row := fnSequenceUptoRow, standIns := [], harness := (true, "691dbaa621f1171dd23424cf05a57a88e107109ebe0bbf9dcbfb5b895b92996f"), looks := true }, kinds := [], alts := [], laidByText := true, laidKinds := [.data, .data, .data], laidTests := true, laidLooks := .later }
def FnSequenceUptoCardSaid : Prop := Claim7.holds Tryd.pinned (.plain (OpenSpec.upto fnSequenceSpec)) fnSequenceUptoCard
end Rows
end Go.Proofs.YtaembebbaejfiaaDoor
