/-
  NARROWER THAN 'FOR EVERY INPUT', by the rows' own cells (each row's printed sentence says how): FnSubstBlind: laid · FnSubstOwn: laid · FnSubstPlain: laid · FnSubstValue: laid · FnSubstWords: laid · FnSubstSigns: laid.
  DERIVED. THE GIVEN ROWS OF THIS SEAT. 6 by the template 'for every input the law returns true; each argument reads behind the call as it read before'; 0 by the template 'total and deterministic' (their statements: YtkhkmhbledigpaaGreatDoorTotals.lean).
  GIVEN WITH THE SEED: the statements are not yours to turn. If you find one false, say at which input.
  Laid BY PROGRAM, IN A SANDBOX (cutbox-rows.mjs): the forced cells as the released guide's own fill.sh prints them over the translation 772d94f7fc8fde82… (all of the seat's roots in one cut). By AI agents, Wed Nov 11 2026. No macro, syntax, notation, axiom, sorry.
-/
import Derived.Test.YtkhkmhbledigpaaGreatDoorChecked
import GoSem.Claim
import GoSem.ClaimJoined
import GoSem.ClaimMapViews
import Derived.JoinedTies
import Derived.KernelRfl
namespace Go.Proofs.YtkhkmhbledigpaaGreatDoor
/- THE CELL 'sum', in the pinned program and in every row, IS THE sha256 OF THE DUMP (.gsa) THAT YtkhkmhbledigpaaGreatDoorProg.lean LOADS. Nothing in Lean hashes anything: it is a label: what it is worth is what the hold of that sum in a sandbox is worth. -/
noncomputable def Tryz.pinned : Pinned := { name := "ytkhkmhbledigpaagreatdoor", sum := "772d94f7fc8fde824b5212dda00e499a86169f6b1ff0032391bcc9bba8f3828c", checked := Tryz.checked }
namespace Rows
def none {H : Type} : Left H := { results := [], args := [] }

/- WHAT THE LISTED PACKAGE-LEVEL VARIABLES READ AS WHEN THE CALL BEGINS. Each datum BY PROGRAM (the guide's laid-datum.mjs) off the statement by which the dump's own 'gosem.cut.vars' lays the variable. In a bare row this is a premise. The card (YtkhkmhbledigpaaGreatDoorCards.lean) ties it to the program's text. -/
def laid_errors_errorType {H : Type} : DataW H := .iface "internal/reflectlite.rtype" (.agg [.ptr (.lit (.string [101, 114, 114, 111, 114]))])
def laid_pub_shipwright_pub_composego_template_DefaultPattern {H : Type} : DataW H := .agg []

/-- 'laws.FnSubstBlind': WHATEVER THE INPUT: true; the input reads as it did. -/
def fnSubstBlindSpec : ChangeSpec := { name := "fnSubstBlind", fn := fun _ => fun
  | [d1, d2, d3, d4] => { results := [.lit (.bool true)], args := [d1, d2, d3, d4] }
  | _ => none }
def fnSubstBlindRow : OpenClaim := { program := "ytkhkmhbledigpaagreatdoor", sum := "772d94f7fc8fde824b5212dda00e499a86169f6b1ff0032391bcc9bba8f3828c", func := "pub-shipwright/laws.FnSubstBlind", spec := "fnSubstBlind", inPlace := ["internal/reflectlite.ValueOf", "internal/reflectlite.Swapper", "(internal/reflectlite.Value).Len", "(internal/reflectlite.Value).Type", "(internal/reflectlite.Value).IsNil", "internal/reflectlite.TypeOf", "(internal/reflectlite.Value).Elem", "(internal/reflectlite.Value).Set"], unfollowed := true, recurses := true, named := ["pub-shipwright/pub/composego/template.DefaultPattern", "errors.errorType"], apart := false, laid := [("errors.errorType", laid_errors_errorType), ("pub-shipwright/pub/composego/template.DefaultPattern", laid_pub_shipwright_pub_composego_template_DefaultPattern)] }
def FnSubstBlindSaid : Prop := fnSubstBlindRow.holds Tryz.pinned (OpenSpec.ofChange fnSubstBlindSpec)

/-- ITS FALSE NEIGHBOUR: 'it returns false'. Refute it at one input. -/
def fnSubstBlindWrong : ChangeSpec := { name := "fnSubstBlind", fn := fun _ => fun
  | [d1, d2, d3, d4] => { results := [.lit (.bool false)], args := [d1, d2, d3, d4] }
  | _ => none }
def FnSubstBlindWrongFalsely : Prop := fnSubstBlindRow.holds Tryz.pinned (OpenSpec.ofChange fnSubstBlindWrong)

/-- 'laws.FnSubstOwn': WHATEVER THE INPUT: true; the input reads as it did. -/
def fnSubstOwnSpec : ChangeSpec := { name := "fnSubstOwn", fn := fun _ => fun
  | [d1, d2] => { results := [.lit (.bool true)], args := [d1, d2] }
  | _ => none }
def fnSubstOwnRow : OpenClaim := { program := "ytkhkmhbledigpaagreatdoor", sum := "772d94f7fc8fde824b5212dda00e499a86169f6b1ff0032391bcc9bba8f3828c", func := "pub-shipwright/laws.FnSubstOwn", spec := "fnSubstOwn", inPlace := ["internal/reflectlite.ValueOf", "internal/reflectlite.Swapper", "(internal/reflectlite.Value).Len", "(internal/reflectlite.Value).Type", "(internal/reflectlite.Value).IsNil", "internal/reflectlite.TypeOf", "(internal/reflectlite.Value).Elem", "(internal/reflectlite.Value).Set"], unfollowed := true, recurses := true, named := ["pub-shipwright/pub/composego/template.DefaultPattern", "errors.errorType"], apart := false, laid := [("errors.errorType", laid_errors_errorType), ("pub-shipwright/pub/composego/template.DefaultPattern", laid_pub_shipwright_pub_composego_template_DefaultPattern)] }
def FnSubstOwnSaid : Prop := fnSubstOwnRow.holds Tryz.pinned (OpenSpec.ofChange fnSubstOwnSpec)

/-- ITS FALSE NEIGHBOUR: 'it returns false'. Refute it at one input. -/
def fnSubstOwnWrong : ChangeSpec := { name := "fnSubstOwn", fn := fun _ => fun
  | [d1, d2] => { results := [.lit (.bool false)], args := [d1, d2] }
  | _ => none }
def FnSubstOwnWrongFalsely : Prop := fnSubstOwnRow.holds Tryz.pinned (OpenSpec.ofChange fnSubstOwnWrong)

/-- 'laws.FnSubstPlain': WHATEVER THE INPUT: true; the input reads as it did. -/
def fnSubstPlainSpec : ChangeSpec := { name := "fnSubstPlain", fn := fun _ => fun
  | [d1, d2] => { results := [.lit (.bool true)], args := [d1, d2] }
  | _ => none }
def fnSubstPlainRow : OpenClaim := { program := "ytkhkmhbledigpaagreatdoor", sum := "772d94f7fc8fde824b5212dda00e499a86169f6b1ff0032391bcc9bba8f3828c", func := "pub-shipwright/laws.FnSubstPlain", spec := "fnSubstPlain", inPlace := ["internal/reflectlite.ValueOf", "internal/reflectlite.Swapper", "(internal/reflectlite.Value).Len", "(internal/reflectlite.Value).Type", "(internal/reflectlite.Value).IsNil", "internal/reflectlite.TypeOf", "(internal/reflectlite.Value).Elem", "(internal/reflectlite.Value).Set"], unfollowed := true, recurses := true, named := ["pub-shipwright/pub/composego/template.DefaultPattern", "errors.errorType"], apart := false, laid := [("errors.errorType", laid_errors_errorType), ("pub-shipwright/pub/composego/template.DefaultPattern", laid_pub_shipwright_pub_composego_template_DefaultPattern)] }
def FnSubstPlainSaid : Prop := fnSubstPlainRow.holds Tryz.pinned (OpenSpec.ofChange fnSubstPlainSpec)

/-- ITS FALSE NEIGHBOUR: 'it returns false'. Refute it at one input. -/
def fnSubstPlainWrong : ChangeSpec := { name := "fnSubstPlain", fn := fun _ => fun
  | [d1, d2] => { results := [.lit (.bool false)], args := [d1, d2] }
  | _ => none }
def FnSubstPlainWrongFalsely : Prop := fnSubstPlainRow.holds Tryz.pinned (OpenSpec.ofChange fnSubstPlainWrong)

/-- 'laws.FnSubstValue': WHATEVER THE INPUT: true; the input reads as it did. -/
def fnSubstValueSpec : ChangeSpec := { name := "fnSubstValue", fn := fun _ => fun
  | [d1, d2, d3, d4] => { results := [.lit (.bool true)], args := [d1, d2, d3, d4] }
  | _ => none }
def fnSubstValueRow : OpenClaim := { program := "ytkhkmhbledigpaagreatdoor", sum := "772d94f7fc8fde824b5212dda00e499a86169f6b1ff0032391bcc9bba8f3828c", func := "pub-shipwright/laws.FnSubstValue", spec := "fnSubstValue", inPlace := ["internal/reflectlite.ValueOf", "internal/reflectlite.Swapper", "(internal/reflectlite.Value).Len", "(internal/reflectlite.Value).Type", "(internal/reflectlite.Value).IsNil", "internal/reflectlite.TypeOf", "(internal/reflectlite.Value).Elem", "(internal/reflectlite.Value).Set"], unfollowed := true, recurses := true, named := ["pub-shipwright/pub/composego/template.DefaultPattern", "errors.errorType"], apart := false, laid := [("errors.errorType", laid_errors_errorType), ("pub-shipwright/pub/composego/template.DefaultPattern", laid_pub_shipwright_pub_composego_template_DefaultPattern)] }
def FnSubstValueSaid : Prop := fnSubstValueRow.holds Tryz.pinned (OpenSpec.ofChange fnSubstValueSpec)

/-- ITS FALSE NEIGHBOUR: 'it returns false'. Refute it at one input. -/
def fnSubstValueWrong : ChangeSpec := { name := "fnSubstValue", fn := fun _ => fun
  | [d1, d2, d3, d4] => { results := [.lit (.bool false)], args := [d1, d2, d3, d4] }
  | _ => none }
def FnSubstValueWrongFalsely : Prop := fnSubstValueRow.holds Tryz.pinned (OpenSpec.ofChange fnSubstValueWrong)

/-- 'laws.FnSubstWords': WHATEVER THE INPUT: true; the input reads as it did. -/
def fnSubstWordsSpec : ChangeSpec := { name := "fnSubstWords", fn := fun _ => fun
  | [d1, d2, d3, d4] => { results := [.lit (.bool true)], args := [d1, d2, d3, d4] }
  | _ => none }
def fnSubstWordsRow : OpenClaim := { program := "ytkhkmhbledigpaagreatdoor", sum := "772d94f7fc8fde824b5212dda00e499a86169f6b1ff0032391bcc9bba8f3828c", func := "pub-shipwright/laws.FnSubstWords", spec := "fnSubstWords", inPlace := ["internal/reflectlite.ValueOf", "internal/reflectlite.Swapper", "(internal/reflectlite.Value).Len", "(internal/reflectlite.Value).Type", "(internal/reflectlite.Value).IsNil", "internal/reflectlite.TypeOf", "(internal/reflectlite.Value).Elem", "(internal/reflectlite.Value).Set"], unfollowed := true, recurses := true, named := ["pub-shipwright/pub/composego/template.DefaultPattern", "errors.errorType"], apart := false, laid := [("errors.errorType", laid_errors_errorType), ("pub-shipwright/pub/composego/template.DefaultPattern", laid_pub_shipwright_pub_composego_template_DefaultPattern)] }
def FnSubstWordsSaid : Prop := fnSubstWordsRow.holds Tryz.pinned (OpenSpec.ofChange fnSubstWordsSpec)

/-- ITS FALSE NEIGHBOUR: 'it returns false'. Refute it at one input. -/
def fnSubstWordsWrong : ChangeSpec := { name := "fnSubstWords", fn := fun _ => fun
  | [d1, d2, d3, d4] => { results := [.lit (.bool false)], args := [d1, d2, d3, d4] }
  | _ => none }
def FnSubstWordsWrongFalsely : Prop := fnSubstWordsRow.holds Tryz.pinned (OpenSpec.ofChange fnSubstWordsWrong)

/-- 'laws.FnSubstSigns': WHATEVER THE INPUT: true; the input reads as it did. -/
def fnSubstSignsSpec : ChangeSpec := { name := "fnSubstSigns", fn := fun _ => fun
  | [d1, d2, d3, d4, d5] => { results := [.lit (.bool true)], args := [d1, d2, d3, d4, d5] }
  | _ => none }
def fnSubstSignsRow : OpenClaim := { program := "ytkhkmhbledigpaagreatdoor", sum := "772d94f7fc8fde824b5212dda00e499a86169f6b1ff0032391bcc9bba8f3828c", func := "pub-shipwright/laws.FnSubstSigns", spec := "fnSubstSigns", inPlace := ["internal/reflectlite.ValueOf", "internal/reflectlite.Swapper", "(internal/reflectlite.Value).Len", "(internal/reflectlite.Value).Type", "(internal/reflectlite.Value).IsNil", "internal/reflectlite.TypeOf", "(internal/reflectlite.Value).Elem", "(internal/reflectlite.Value).Set"], unfollowed := true, recurses := true, named := ["pub-shipwright/pub/composego/template.DefaultPattern", "errors.errorType"], apart := false, laid := [("errors.errorType", laid_errors_errorType), ("pub-shipwright/pub/composego/template.DefaultPattern", laid_pub_shipwright_pub_composego_template_DefaultPattern)] }
def FnSubstSignsSaid : Prop := fnSubstSignsRow.holds Tryz.pinned (OpenSpec.ofChange fnSubstSignsSpec)

/-- ITS FALSE NEIGHBOUR: 'it returns false'. Refute it at one input. -/
def fnSubstSignsWrong : ChangeSpec := { name := "fnSubstSigns", fn := fun _ => fun
  | [d1, d2, d3, d4, d5] => { results := [.lit (.bool false)], args := [d1, d2, d3, d4, d5] }
  | _ => none }
def FnSubstSignsWrongFalsely : Prop := fnSubstSignsRow.holds Tryz.pinned (OpenSpec.ofChange fnSubstSignsWrong)

/- THE SECOND FORM. 'bulk': how many values and letters a reading holds, each counted each time it is reached (what is shared counts as often as it is met; a slice's spare places count too). A statement '..UptoSaid' is the law's where the arguments, and the package variables that the reading takes, are together of bulk at most 1048576: NARROWER than '..Said'. Prove '..Said' where nothing that the law and all that it calls make is longer than what came in: it says more and counts as full. Else prove '..UptoSaid'. A law counts once. -/
mutual
def uptoBulk {H : Type} : DataW H → Nat
  | .lit (.string bytes) => bytes.length + 1
  | .lit _ => 1
  | .nil => 1
  | .ptr d => uptoBulk d + 1
  | .slice elems spare => uptoBulkAll elems + uptoBulkAll spare + 1
  | .agg parts => uptoBulkAll parts + 1
  | .iface _ d => uptoBulk d + 1
  | .map entries => uptoBulkEntries entries + 1
  | .held _ => 1
def uptoBulkAll {H : Type} : List (DataW H) → Nat
  | [] => 0
  | d :: r => uptoBulk d + uptoBulkAll r
def uptoBulkEntries {H : Type} : List (Lit × DataW H) → Nat
  | [] => 0
  | x :: r => uptoBulkEntry x + uptoBulkEntries r
def uptoBulkEntry {H : Type} : Lit × DataW H → Nat
  | (.string bytes, d) => bytes.length + uptoBulk d + 1
  | (_, d) => uptoBulk d + 1
 end
def uptoSmall : (H : Type) → List (DataW H) → Bool := fun _ ds => decide (uptoBulkAll ds ≤ 1048576)
def OpenSpec.upto (s : _root_.Go.ChangeSpec) : _root_.Go.OpenSpec := { _root_.Go.OpenSpec.ofChange s with cond := some uptoSmall }

/-- 'laws.FnSubstBlind', WHERE WHAT IT READS IS OF BULK AT MOST 1048576: true; the input reads as it did. -/
def fnSubstBlindUptoRow : OpenClaim := { program := "ytkhkmhbledigpaagreatdoor", sum := "772d94f7fc8fde824b5212dda00e499a86169f6b1ff0032391bcc9bba8f3828c", func := "pub-shipwright/laws.FnSubstBlind", spec := "fnSubstBlind", inPlace := ["internal/reflectlite.ValueOf", "internal/reflectlite.Swapper", "(internal/reflectlite.Value).Len", "(internal/reflectlite.Value).Type", "(internal/reflectlite.Value).IsNil", "internal/reflectlite.TypeOf", "(internal/reflectlite.Value).Elem", "(internal/reflectlite.Value).Set"], unfollowed := true, recurses := true, named := ["pub-shipwright/pub/composego/template.DefaultPattern", "errors.errorType"], apart := false, laid := [("errors.errorType", laid_errors_errorType), ("pub-shipwright/pub/composego/template.DefaultPattern", laid_pub_shipwright_pub_composego_template_DefaultPattern)], narrowed := true }
def FnSubstBlindUptoSaid : Prop := fnSubstBlindUptoRow.holds Tryz.pinned (OpenSpec.upto fnSubstBlindSpec)

/-- 'laws.FnSubstOwn', WHERE WHAT IT READS IS OF BULK AT MOST 1048576: true; the input reads as it did. -/
def fnSubstOwnUptoRow : OpenClaim := { program := "ytkhkmhbledigpaagreatdoor", sum := "772d94f7fc8fde824b5212dda00e499a86169f6b1ff0032391bcc9bba8f3828c", func := "pub-shipwright/laws.FnSubstOwn", spec := "fnSubstOwn", inPlace := ["internal/reflectlite.ValueOf", "internal/reflectlite.Swapper", "(internal/reflectlite.Value).Len", "(internal/reflectlite.Value).Type", "(internal/reflectlite.Value).IsNil", "internal/reflectlite.TypeOf", "(internal/reflectlite.Value).Elem", "(internal/reflectlite.Value).Set"], unfollowed := true, recurses := true, named := ["pub-shipwright/pub/composego/template.DefaultPattern", "errors.errorType"], apart := false, laid := [("errors.errorType", laid_errors_errorType), ("pub-shipwright/pub/composego/template.DefaultPattern", laid_pub_shipwright_pub_composego_template_DefaultPattern)], narrowed := true }
def FnSubstOwnUptoSaid : Prop := fnSubstOwnUptoRow.holds Tryz.pinned (OpenSpec.upto fnSubstOwnSpec)

/-- 'laws.FnSubstPlain', WHERE WHAT IT READS IS OF BULK AT MOST 1048576: true; the input reads as it did. -/
def fnSubstPlainUptoRow : OpenClaim := { program := "ytkhkmhbledigpaagreatdoor", sum := "772d94f7fc8fde824b5212dda00e499a86169f6b1ff0032391bcc9bba8f3828c", func := "pub-shipwright/laws.FnSubstPlain", spec := "fnSubstPlain", inPlace := ["internal/reflectlite.ValueOf", "internal/reflectlite.Swapper", "(internal/reflectlite.Value).Len", "(internal/reflectlite.Value).Type", "(internal/reflectlite.Value).IsNil", "internal/reflectlite.TypeOf", "(internal/reflectlite.Value).Elem", "(internal/reflectlite.Value).Set"], unfollowed := true, recurses := true, named := ["pub-shipwright/pub/composego/template.DefaultPattern", "errors.errorType"], apart := false, laid := [("errors.errorType", laid_errors_errorType), ("pub-shipwright/pub/composego/template.DefaultPattern", laid_pub_shipwright_pub_composego_template_DefaultPattern)], narrowed := true }
def FnSubstPlainUptoSaid : Prop := fnSubstPlainUptoRow.holds Tryz.pinned (OpenSpec.upto fnSubstPlainSpec)

/-- 'laws.FnSubstValue', WHERE WHAT IT READS IS OF BULK AT MOST 1048576: true; the input reads as it did. -/
def fnSubstValueUptoRow : OpenClaim := { program := "ytkhkmhbledigpaagreatdoor", sum := "772d94f7fc8fde824b5212dda00e499a86169f6b1ff0032391bcc9bba8f3828c", func := "pub-shipwright/laws.FnSubstValue", spec := "fnSubstValue", inPlace := ["internal/reflectlite.ValueOf", "internal/reflectlite.Swapper", "(internal/reflectlite.Value).Len", "(internal/reflectlite.Value).Type", "(internal/reflectlite.Value).IsNil", "internal/reflectlite.TypeOf", "(internal/reflectlite.Value).Elem", "(internal/reflectlite.Value).Set"], unfollowed := true, recurses := true, named := ["pub-shipwright/pub/composego/template.DefaultPattern", "errors.errorType"], apart := false, laid := [("errors.errorType", laid_errors_errorType), ("pub-shipwright/pub/composego/template.DefaultPattern", laid_pub_shipwright_pub_composego_template_DefaultPattern)], narrowed := true }
def FnSubstValueUptoSaid : Prop := fnSubstValueUptoRow.holds Tryz.pinned (OpenSpec.upto fnSubstValueSpec)

/-- 'laws.FnSubstWords', WHERE WHAT IT READS IS OF BULK AT MOST 1048576: true; the input reads as it did. -/
def fnSubstWordsUptoRow : OpenClaim := { program := "ytkhkmhbledigpaagreatdoor", sum := "772d94f7fc8fde824b5212dda00e499a86169f6b1ff0032391bcc9bba8f3828c", func := "pub-shipwright/laws.FnSubstWords", spec := "fnSubstWords", inPlace := ["internal/reflectlite.ValueOf", "internal/reflectlite.Swapper", "(internal/reflectlite.Value).Len", "(internal/reflectlite.Value).Type", "(internal/reflectlite.Value).IsNil", "internal/reflectlite.TypeOf", "(internal/reflectlite.Value).Elem", "(internal/reflectlite.Value).Set"], unfollowed := true, recurses := true, named := ["pub-shipwright/pub/composego/template.DefaultPattern", "errors.errorType"], apart := false, laid := [("errors.errorType", laid_errors_errorType), ("pub-shipwright/pub/composego/template.DefaultPattern", laid_pub_shipwright_pub_composego_template_DefaultPattern)], narrowed := true }
def FnSubstWordsUptoSaid : Prop := fnSubstWordsUptoRow.holds Tryz.pinned (OpenSpec.upto fnSubstWordsSpec)

/-- 'laws.FnSubstSigns', WHERE WHAT IT READS IS OF BULK AT MOST 1048576: true; the input reads as it did. -/
def fnSubstSignsUptoRow : OpenClaim := { program := "ytkhkmhbledigpaagreatdoor", sum := "772d94f7fc8fde824b5212dda00e499a86169f6b1ff0032391bcc9bba8f3828c", func := "pub-shipwright/laws.FnSubstSigns", spec := "fnSubstSigns", inPlace := ["internal/reflectlite.ValueOf", "internal/reflectlite.Swapper", "(internal/reflectlite.Value).Len", "(internal/reflectlite.Value).Type", "(internal/reflectlite.Value).IsNil", "internal/reflectlite.TypeOf", "(internal/reflectlite.Value).Elem", "(internal/reflectlite.Value).Set"], unfollowed := true, recurses := true, named := ["pub-shipwright/pub/composego/template.DefaultPattern", "errors.errorType"], apart := false, laid := [("errors.errorType", laid_errors_errorType), ("pub-shipwright/pub/composego/template.DefaultPattern", laid_pub_shipwright_pub_composego_template_DefaultPattern)], narrowed := true }
def FnSubstSignsUptoSaid : Prop := fnSubstSignsUptoRow.holds Tryz.pinned (OpenSpec.upto fnSubstSignsSpec)

end Rows
end Go.Proofs.YtkhkmhbledigpaaGreatDoor
