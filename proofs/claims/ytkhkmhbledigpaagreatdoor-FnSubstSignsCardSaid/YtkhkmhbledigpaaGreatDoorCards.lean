/-
  DERIVED. GIVEN WITH THE SEED: THE CARDS: each row of YtkhkmhbledigpaaGreatDoorRows.lean that lists a variable, with what it lists TIED to the program's text (the seventh form; the later family's looks); each row that meets fmt, with fmt's text TOLD by the authors' own Lean function (tested against real Go, not proved from fmt's source: count such statements apart). THE CARD IS WHAT COUNTS. Prove the row's statement (the work); the ties are given (YtkhkmhbledigpaaGreatDoorTie.lean); close each card by the builder's one call (the guide's Derived/Test/ToyasCard.lean, 'card_holds'). Laid BY PROGRAM, IN A SANDBOX (cutbox-door.mjs). By AI agents, Wed Nov 11 2026. No macro, syntax, notation, axiom, sorry.
-/
import Derived.Test.YtkhkmhbledigpaaGreatDoorRows
import GoSem.ClaimSeven
namespace Go.Proofs.YtkhkmhbledigpaaGreatDoor
namespace Rows

/-- THE TIED CARD OF 'laws.FnSubstBlind'. -/
def fnSubstBlindCard : Claim7 := { stood := { row := fnSubstBlindRow, standIns := [], harness := (true, "5ea377a86ca1d12b4d7564acc535c7b58686d4c18d783196592a84fbe75dc29a"), looks := true }, kinds := [], alts := [], laidByText := true, laidKinds := [.handle, .data], laidTests := true, laidLooks := .later }
def FnSubstBlindCardSaid : Prop := Claim7.holds Tryz.pinned (.plain (OpenSpec.ofChange fnSubstBlindSpec)) fnSubstBlindCard

/-- THE TIED CARD OF 'laws.FnSubstOwn'. -/
def fnSubstOwnCard : Claim7 := { stood := { row := fnSubstOwnRow, standIns := [], harness := (true, "5ea377a86ca1d12b4d7564acc535c7b58686d4c18d783196592a84fbe75dc29a"), looks := true }, kinds := [], alts := [], laidByText := true, laidKinds := [.handle, .data], laidTests := true, laidLooks := .later }
def FnSubstOwnCardSaid : Prop := Claim7.holds Tryz.pinned (.plain (OpenSpec.ofChange fnSubstOwnSpec)) fnSubstOwnCard

/-- THE TIED CARD OF 'laws.FnSubstPlain'. -/
def fnSubstPlainCard : Claim7 := { stood := { row := fnSubstPlainRow, standIns := [], harness := (true, "5ea377a86ca1d12b4d7564acc535c7b58686d4c18d783196592a84fbe75dc29a"), looks := true }, kinds := [], alts := [], laidByText := true, laidKinds := [.handle, .data], laidTests := true, laidLooks := .later }
def FnSubstPlainCardSaid : Prop := Claim7.holds Tryz.pinned (.plain (OpenSpec.ofChange fnSubstPlainSpec)) fnSubstPlainCard

/-- THE TIED CARD OF 'laws.FnSubstValue'. -/
def fnSubstValueCard : Claim7 := { stood := { row := fnSubstValueRow, standIns := [], harness := (true, "5ea377a86ca1d12b4d7564acc535c7b58686d4c18d783196592a84fbe75dc29a"), looks := true }, kinds := [], alts := [], laidByText := true, laidKinds := [.handle, .data], laidTests := true, laidLooks := .later }
def FnSubstValueCardSaid : Prop := Claim7.holds Tryz.pinned (.plain (OpenSpec.ofChange fnSubstValueSpec)) fnSubstValueCard

/-- THE TIED CARD OF 'laws.FnSubstWords'. -/
def fnSubstWordsCard : Claim7 := { stood := { row := fnSubstWordsRow, standIns := [], harness := (true, "5ea377a86ca1d12b4d7564acc535c7b58686d4c18d783196592a84fbe75dc29a"), looks := true }, kinds := [], alts := [], laidByText := true, laidKinds := [.handle, .data], laidTests := true, laidLooks := .later }
def FnSubstWordsCardSaid : Prop := Claim7.holds Tryz.pinned (.plain (OpenSpec.ofChange fnSubstWordsSpec)) fnSubstWordsCard

/-- THE TIED CARD OF 'laws.FnSubstSigns'. -/
def fnSubstSignsCard : Claim7 := { stood := { row := fnSubstSignsRow, standIns := [], harness := (true, "5ea377a86ca1d12b4d7564acc535c7b58686d4c18d783196592a84fbe75dc29a"), looks := true }, kinds := [], alts := [], laidByText := true, laidKinds := [.handle, .data], laidTests := true, laidLooks := .later }
def FnSubstSignsCardSaid : Prop := Claim7.holds Tryz.pinned (.plain (OpenSpec.ofChange fnSubstSignsSpec)) fnSubstSignsCard

/-- THE SECOND FORM's CARD OF 'laws.FnSubstBlind'. -/
def fnSubstBlindUptoCard : Claim7 := { stood := { row := fnSubstBlindUptoRow, standIns := [], harness := (true, "5ea377a86ca1d12b4d7564acc535c7b58686d4c18d783196592a84fbe75dc29a"), looks := true }, kinds := [], alts := [], laidByText := true, laidKinds := [.handle, .data], laidTests := true, laidLooks := .later }
def FnSubstBlindUptoCardSaid : Prop := Claim7.holds Tryz.pinned (.plain (OpenSpec.upto fnSubstBlindSpec)) fnSubstBlindUptoCard

/-- THE SECOND FORM's CARD OF 'laws.FnSubstOwn'. -/
def fnSubstOwnUptoCard : Claim7 := { stood := { row := fnSubstOwnUptoRow, standIns := [], harness := (true, "5ea377a86ca1d12b4d7564acc535c7b58686d4c18d783196592a84fbe75dc29a"), looks := true }, kinds := [], alts := [], laidByText := true, laidKinds := [.handle, .data], laidTests := true, laidLooks := .later }
def FnSubstOwnUptoCardSaid : Prop := Claim7.holds Tryz.pinned (.plain (OpenSpec.upto fnSubstOwnSpec)) fnSubstOwnUptoCard

/-- THE SECOND FORM's CARD OF 'laws.FnSubstPlain'. -/
def fnSubstPlainUptoCard : Claim7 := { stood := { row := fnSubstPlainUptoRow, standIns := [], harness := (true, "5ea377a86ca1d12b4d7564acc535c7b58686d4c18d783196592a84fbe75dc29a"), looks := true }, kinds := [], alts := [], laidByText := true, laidKinds := [.handle, .data], laidTests := true, laidLooks := .later }
def FnSubstPlainUptoCardSaid : Prop := Claim7.holds Tryz.pinned (.plain (OpenSpec.upto fnSubstPlainSpec)) fnSubstPlainUptoCard

/-- THE SECOND FORM's CARD OF 'laws.FnSubstValue'. -/
def fnSubstValueUptoCard : Claim7 := { stood := { row := fnSubstValueUptoRow, standIns := [], harness := (true, "5ea377a86ca1d12b4d7564acc535c7b58686d4c18d783196592a84fbe75dc29a"), looks := true }, kinds := [], alts := [], laidByText := true, laidKinds := [.handle, .data], laidTests := true, laidLooks := .later }
def FnSubstValueUptoCardSaid : Prop := Claim7.holds Tryz.pinned (.plain (OpenSpec.upto fnSubstValueSpec)) fnSubstValueUptoCard

/-- THE SECOND FORM's CARD OF 'laws.FnSubstWords'. -/
def fnSubstWordsUptoCard : Claim7 := { stood := { row := fnSubstWordsUptoRow, standIns := [], harness := (true, "5ea377a86ca1d12b4d7564acc535c7b58686d4c18d783196592a84fbe75dc29a"), looks := true }, kinds := [], alts := [], laidByText := true, laidKinds := [.handle, .data], laidTests := true, laidLooks := .later }
def FnSubstWordsUptoCardSaid : Prop := Claim7.holds Tryz.pinned (.plain (OpenSpec.upto fnSubstWordsSpec)) fnSubstWordsUptoCard

/-- THE SECOND FORM's CARD OF 'laws.FnSubstSigns'. -/
def fnSubstSignsUptoCard : Claim7 := { stood := { row := fnSubstSignsUptoRow, standIns := [], harness := (true, "5ea377a86ca1d12b4d7564acc535c7b58686d4c18d783196592a84fbe75dc29a"), looks := true }, kinds := [], alts := [], laidByText := true, laidKinds := [.handle, .data], laidTests := true, laidLooks := .later }
def FnSubstSignsUptoCardSaid : Prop := Claim7.holds Tryz.pinned (.plain (OpenSpec.upto fnSubstSignsSpec)) fnSubstSignsUptoCard
end Rows
end Go.Proofs.YtkhkmhbledigpaaGreatDoor
