/-
  DERIVED. GIVEN WITH THE SEED: THE CARDS: each row of YtididniafloogaaGreatDoorRows.lean that lists a variable, with what it lists TIED to the program's text (the seventh form; the later family's looks); each row that meets fmt, with fmt's text TOLD by the authors' own Lean function (tested against real Go, not proved from fmt's source: count such statements apart). THE CARD IS WHAT COUNTS. Prove the row's statement (the work); the ties are given (YtididniafloogaaGreatDoorTie.lean); close each card by the builder's one call (the guide's Derived/Test/ToyasCard.lean, 'card_holds'). Laid BY PROGRAM, IN A SANDBOX (cutbox-door.mjs). By AI agents, Wed Nov 11 2026. No macro, syntax, notation, axiom, sorry.
-/
import Derived.Test.YtididniafloogaaGreatDoorRows
import GoSem.ClaimSeven
namespace Go.Proofs.YtididniafloogaaGreatDoor
namespace Rows

/-- THE TIED CARD OF 'laws.FnMapping'. -/
def fnMappingCard : Claim7 := { stood := { row := fnMappingRow, standIns := [], harness := (true, "25defe7772b85601eacea23bb5340f5e0ab8ad64ef83b1b890a260de8f4bede0"), looks := true }, kinds := [], alts := [], laidByText := true, laidKinds := [.data, .data, .data, .data, .sentinel, .sentinel, .listed, .data, .pinned, .pinned], laidTests := true, laidLooks := .later }
def FnMappingCardSaid : Prop := Claim7.holds Tryz.pinned (.plain (OpenSpec.ofChange fnMappingSpec)) fnMappingCard

/-- THE TIED CARD OF 'laws.FnTruth'. -/
def fnTruthCard : Claim7 := { stood := { row := fnTruthRow, standIns := [], harness := (true, "25defe7772b85601eacea23bb5340f5e0ab8ad64ef83b1b890a260de8f4bede0"), looks := true }, kinds := [], alts := [], laidByText := true, laidKinds := [.data, .data, .data, .data, .sentinel, .sentinel, .listed, .data, .pinned, .pinned], laidTests := true, laidLooks := .later }
def FnTruthCardSaid : Prop := Claim7.holds Tryz.pinned (.plain (OpenSpec.ofChange fnTruthSpec)) fnTruthCard

/-- THE TIED CARD OF 'laws.FnMappingMerges'. -/
def fnMappingMergesCard : Claim7 := { stood := { row := fnMappingMergesRow, standIns := [], harness := (true, "25defe7772b85601eacea23bb5340f5e0ab8ad64ef83b1b890a260de8f4bede0"), looks := true }, kinds := [], alts := [], laidByText := true, laidKinds := [.data, .data, .data, .data, .sentinel, .sentinel, .listed, .data, .pinned, .pinned], laidTests := true, laidLooks := .later }
def FnMappingMergesCardSaid : Prop := Claim7.holds Tryz.pinned (.plain (OpenSpec.ofChange fnMappingMergesSpec)) fnMappingMergesCard

/-- THE TIED CARD OF 'laws.FnContains'. -/
def fnContainsCard : Claim7 := { stood := { row := fnContainsRow, standIns := [], harness := (true, "25defe7772b85601eacea23bb5340f5e0ab8ad64ef83b1b890a260de8f4bede0"), looks := true }, kinds := [], alts := [], laidByText := true, laidKinds := [.data, .data, .data, .data, .sentinel, .sentinel, .listed, .data, .pinned, .pinned], laidTests := true, laidLooks := .later }
def FnContainsCardSaid : Prop := Claim7.holds Tryz.pinned (.plain (OpenSpec.ofChange fnContainsSpec)) fnContainsCard

/-- THE TIED CARD OF 'laws.FnEqualsResolve'. -/
def fnEqualsResolveCard : Claim7 := { stood := { row := fnEqualsResolveRow, standIns := [], harness := (true, "25defe7772b85601eacea23bb5340f5e0ab8ad64ef83b1b890a260de8f4bede0"), looks := true }, kinds := [], alts := [], laidByText := true, laidKinds := [.data, .data, .data, .data, .sentinel, .sentinel, .listed, .data, .pinned, .pinned], laidTests := true, laidLooks := .later }
def FnEqualsResolveCardSaid : Prop := Claim7.holds Tryz.pinned (.plain (OpenSpec.ofChange fnEqualsResolveSpec)) fnEqualsResolveCard

/-- THE TIED CARD OF 'laws.FnHostsRead'. -/
def fnHostsReadCard : Claim7 := { stood := { row := fnHostsReadRow, standIns := [], harness := (true, "25defe7772b85601eacea23bb5340f5e0ab8ad64ef83b1b890a260de8f4bede0"), looks := true }, kinds := [], alts := [], laidByText := true, laidKinds := [.data, .data, .data, .data, .sentinel, .sentinel, .listed, .data, .pinned, .pinned], laidTests := true, laidLooks := .later }
def FnHostsReadCardSaid : Prop := Claim7.holds Tryz.pinned (.plain (OpenSpec.ofChange fnHostsReadSpec)) fnHostsReadCard

/-- THE TIED CARD OF 'laws.FnLabels'. -/
def fnLabelsCard : Claim7 := { stood := { row := fnLabelsRow, standIns := [], harness := (true, "25defe7772b85601eacea23bb5340f5e0ab8ad64ef83b1b890a260de8f4bede0"), looks := true }, kinds := [], alts := [], laidByText := true, laidKinds := [.data, .data, .data, .data, .sentinel, .sentinel, .listed, .data, .pinned, .pinned], laidTests := true, laidLooks := .later }
def FnLabelsCardSaid : Prop := Claim7.holds Tryz.pinned (.plain (OpenSpec.ofChange fnLabelsSpec)) fnLabelsCard

/-- THE TIED CARD OF 'laws.FnMappingRoads'. -/
def fnMappingRoadsCard : Claim7 := { stood := { row := fnMappingRoadsRow, standIns := [], harness := (true, "25defe7772b85601eacea23bb5340f5e0ab8ad64ef83b1b890a260de8f4bede0"), looks := true }, kinds := [], alts := [], laidByText := true, laidKinds := [.data, .data, .data, .data, .sentinel, .sentinel, .listed, .data, .pinned, .pinned], laidTests := true, laidLooks := .later }
def FnMappingRoadsCardSaid : Prop := Claim7.holds Tryz.pinned (.plain (OpenSpec.ofChange fnMappingRoadsSpec)) fnMappingRoadsCard

/-- THE SECOND FORM's CARD OF 'laws.FnMapping'. -/
def fnMappingUptoCard : Claim7 := { stood := { row := fnMappingUptoRow, standIns := [], harness := (true, "25defe7772b85601eacea23bb5340f5e0ab8ad64ef83b1b890a260de8f4bede0"), looks := true }, kinds := [], alts := [], laidByText := true, laidKinds := [.data, .data, .data, .data, .sentinel, .sentinel, .listed, .data, .pinned, .pinned], laidTests := true, laidLooks := .later }
def FnMappingUptoCardSaid : Prop := Claim7.holds Tryz.pinned (.plain (OpenSpec.upto fnMappingSpec)) fnMappingUptoCard

/-- THE SECOND FORM's CARD OF 'laws.FnTruth'. -/
def fnTruthUptoCard : Claim7 := { stood := { row := fnTruthUptoRow, standIns := [], harness := (true, "25defe7772b85601eacea23bb5340f5e0ab8ad64ef83b1b890a260de8f4bede0"), looks := true }, kinds := [], alts := [], laidByText := true, laidKinds := [.data, .data, .data, .data, .sentinel, .sentinel, .listed, .data, .pinned, .pinned], laidTests := true, laidLooks := .later }
def FnTruthUptoCardSaid : Prop := Claim7.holds Tryz.pinned (.plain (OpenSpec.upto fnTruthSpec)) fnTruthUptoCard

/-- THE SECOND FORM's CARD OF 'laws.FnMappingMerges'. -/
def fnMappingMergesUptoCard : Claim7 := { stood := { row := fnMappingMergesUptoRow, standIns := [], harness := (true, "25defe7772b85601eacea23bb5340f5e0ab8ad64ef83b1b890a260de8f4bede0"), looks := true }, kinds := [], alts := [], laidByText := true, laidKinds := [.data, .data, .data, .data, .sentinel, .sentinel, .listed, .data, .pinned, .pinned], laidTests := true, laidLooks := .later }
def FnMappingMergesUptoCardSaid : Prop := Claim7.holds Tryz.pinned (.plain (OpenSpec.upto fnMappingMergesSpec)) fnMappingMergesUptoCard

/-- THE SECOND FORM's CARD OF 'laws.FnContains'. -/
def fnContainsUptoCard : Claim7 := { stood := { row := fnContainsUptoRow, standIns := [], harness := (true, "25defe7772b85601eacea23bb5340f5e0ab8ad64ef83b1b890a260de8f4bede0"), looks := true }, kinds := [], alts := [], laidByText := true, laidKinds := [.data, .data, .data, .data, .sentinel, .sentinel, .listed, .data, .pinned, .pinned], laidTests := true, laidLooks := .later }
def FnContainsUptoCardSaid : Prop := Claim7.holds Tryz.pinned (.plain (OpenSpec.upto fnContainsSpec)) fnContainsUptoCard

/-- THE SECOND FORM's CARD OF 'laws.FnEqualsResolve'. -/
def fnEqualsResolveUptoCard : Claim7 := { stood := { row := fnEqualsResolveUptoRow, standIns := [], harness := (true, "25defe7772b85601eacea23bb5340f5e0ab8ad64ef83b1b890a260de8f4bede0"), looks := true }, kinds := [], alts := [], laidByText := true, laidKinds := [.data, .data, .data, .data, .sentinel, .sentinel, .listed, .data, .pinned, .pinned], laidTests := true, laidLooks := .later }
def FnEqualsResolveUptoCardSaid : Prop := Claim7.holds Tryz.pinned (.plain (OpenSpec.upto fnEqualsResolveSpec)) fnEqualsResolveUptoCard

/-- THE SECOND FORM's CARD OF 'laws.FnHostsRead'. -/
def fnHostsReadUptoCard : Claim7 := { stood := { row := fnHostsReadUptoRow, standIns := [], harness := (true, "25defe7772b85601eacea23bb5340f5e0ab8ad64ef83b1b890a260de8f4bede0"), looks := true }, kinds := [], alts := [], laidByText := true, laidKinds := [.data, .data, .data, .data, .sentinel, .sentinel, .listed, .data, .pinned, .pinned], laidTests := true, laidLooks := .later }
def FnHostsReadUptoCardSaid : Prop := Claim7.holds Tryz.pinned (.plain (OpenSpec.upto fnHostsReadSpec)) fnHostsReadUptoCard

/-- THE SECOND FORM's CARD OF 'laws.FnLabels'. -/
def fnLabelsUptoCard : Claim7 := { stood := { row := fnLabelsUptoRow, standIns := [], harness := (true, "25defe7772b85601eacea23bb5340f5e0ab8ad64ef83b1b890a260de8f4bede0"), looks := true }, kinds := [], alts := [], laidByText := true, laidKinds := [.data, .data, .data, .data, .sentinel, .sentinel, .listed, .data, .pinned, .pinned], laidTests := true, laidLooks := .later }
def FnLabelsUptoCardSaid : Prop := Claim7.holds Tryz.pinned (.plain (OpenSpec.upto fnLabelsSpec)) fnLabelsUptoCard

/-- THE SECOND FORM's CARD OF 'laws.FnMappingRoads'. -/
def fnMappingRoadsUptoCard : Claim7 := { stood := { row := fnMappingRoadsUptoRow, standIns := [], harness := (true, "25defe7772b85601eacea23bb5340f5e0ab8ad64ef83b1b890a260de8f4bede0"), looks := true }, kinds := [], alts := [], laidByText := true, laidKinds := [.data, .data, .data, .data, .sentinel, .sentinel, .listed, .data, .pinned, .pinned], laidTests := true, laidLooks := .later }
def FnMappingRoadsUptoCardSaid : Prop := Claim7.holds Tryz.pinned (.plain (OpenSpec.upto fnMappingRoadsSpec)) fnMappingRoadsUptoCard
end Rows
end Go.Proofs.YtididniafloogaaGreatDoor
