/-
  No cell of these rows narrows 'for every input' (looked for: loops, veiled, ifaces, maps, wideKeys, modest, calm, conditions, laid).
  DERIVED. THE GIVEN ROWS OF THIS SEAT. 5 by the template 'for every input the law returns true; each argument reads behind the call as it read before'; 0 by the template 'total and deterministic' (their statements: YtecehldjeppjiaaTotals.lean).
  GIVEN WITH THE SEED: the statements are not yours to turn. If you find one false, say at which input.
  Laid BY PROGRAM, IN A SANDBOX (cutbox-rows.mjs): the forced cells as the released guide's own fill.sh prints them over the translation 77c2c63e216b155c… (all of the seat's roots in one cut). By AI agents, Wed Nov 11 2026. No macro, syntax, notation, axiom, sorry.
-/
import Derived.Test.YtecehldjeppjiaaChecked
import GoSem.Claim
import GoSem.ClaimJoined
import GoSem.ClaimMapViews
import Derived.JoinedTies
import Derived.KernelRfl
namespace Go.Proofs.Ytecehldjeppjiaa
/- THE CELL 'sum', in the pinned program and in every row, IS THE sha256 OF THE DUMP (.gsa) THAT YtecehldjeppjiaaProg.lean LOADS. Nothing in Lean hashes anything: it is a label: what it is worth is what the hold of that sum in a sandbox is worth. -/
noncomputable def Try.pinned : Pinned := { name := "ytecehldjeppjiaa", sum := "77c2c63e216b155c5d9e3cc5cf2a4c5c0fefa6469c0b7543b5e0d1ecc2269e15", checked := Try.checked }
namespace Rows
def none {H : Type} : Left H := { results := [], args := [] }

/-- 'laws.FnFirstBrace': WHATEVER THE INPUT: true; the input reads as it did. -/
def fnFirstBraceSpec : ChangeSpec := { name := "fnFirstBrace", fn := fun _ => fun
  | [d1, d2, d3, d4] => { results := [.lit (.bool true)], args := [d1, d2, d3, d4] }
  | _ => none }
def fnFirstBraceRow : OpenClaim := { program := "ytecehldjeppjiaa", sum := "77c2c63e216b155c5d9e3cc5cf2a4c5c0fefa6469c0b7543b5e0d1ecc2269e15", func := "pub-shipwright/laws.FnFirstBrace", spec := "fnFirstBrace", apart := false }
def FnFirstBraceSaid : Prop := fnFirstBraceRow.holds Try.pinned (OpenSpec.ofChange fnFirstBraceSpec)

/-- ITS FALSE NEIGHBOUR: 'it returns false'. Refute it at one input. -/
def fnFirstBraceWrong : ChangeSpec := { name := "fnFirstBrace", fn := fun _ => fun
  | [d1, d2, d3, d4] => { results := [.lit (.bool false)], args := [d1, d2, d3, d4] }
  | _ => none }
def FnFirstBraceWrongFalsely : Prop := fnFirstBraceRow.holds Try.pinned (OpenSpec.ofChange fnFirstBraceWrong)

/-- 'laws.FnPathParts': WHATEVER THE INPUT: true; the input reads as it did. -/
def fnPathPartsSpec : ChangeSpec := { name := "fnPathParts", fn := fun _ => fun
  | [d] => { results := [.lit (.bool true)], args := [d] }
  | _ => none }
def fnPathPartsRow : OpenClaim := { program := "ytecehldjeppjiaa", sum := "77c2c63e216b155c5d9e3cc5cf2a4c5c0fefa6469c0b7543b5e0d1ecc2269e15", func := "pub-shipwright/laws.FnPathParts", spec := "fnPathParts", inPlace := ["internal/abi.NoEscape", "internal/bytealg.MakeNoZero"], apart := false }
def FnPathPartsSaid : Prop := fnPathPartsRow.holds Try.pinned (OpenSpec.ofChange fnPathPartsSpec)

/-- ITS FALSE NEIGHBOUR: 'it returns false'. Refute it at one input. -/
def fnPathPartsWrong : ChangeSpec := { name := "fnPathParts", fn := fun _ => fun
  | [d] => { results := [.lit (.bool false)], args := [d] }
  | _ => none }
def FnPathPartsWrongFalsely : Prop := fnPathPartsRow.holds Try.pinned (OpenSpec.ofChange fnPathPartsWrong)

/-- 'laws.FnPathMay': WHATEVER THE INPUT: true; the input reads as it did. -/
def fnPathMaySpec : ChangeSpec := { name := "fnPathMay", fn := fun _ => fun
  | [d1, d2] => { results := [.lit (.bool true)], args := [d1, d2] }
  | _ => none }
def fnPathMayRow : OpenClaim := { program := "ytecehldjeppjiaa", sum := "77c2c63e216b155c5d9e3cc5cf2a4c5c0fefa6469c0b7543b5e0d1ecc2269e15", func := "pub-shipwright/laws.FnPathMay", spec := "fnPathMay", inPlace := ["internal/abi.NoEscape", "internal/bytealg.MakeNoZero"], apart := false }
def FnPathMaySaid : Prop := fnPathMayRow.holds Try.pinned (OpenSpec.ofChange fnPathMaySpec)

/-- ITS FALSE NEIGHBOUR: 'it returns false'. Refute it at one input. -/
def fnPathMayWrong : ChangeSpec := { name := "fnPathMay", fn := fun _ => fun
  | [d1, d2] => { results := [.lit (.bool false)], args := [d1, d2] }
  | _ => none }
def FnPathMayWrongFalsely : Prop := fnPathMayRow.holds Try.pinned (OpenSpec.ofChange fnPathMayWrong)

/-- 'laws.FnPathStars': WHATEVER THE INPUT: true; the input reads as it did. -/
def fnPathStarsSpec : ChangeSpec := { name := "fnPathStars", fn := fun _ => fun
  | [d1, d2, d3] => { results := [.lit (.bool true)], args := [d1, d2, d3] }
  | _ => none }
def fnPathStarsRow : OpenClaim := { program := "ytecehldjeppjiaa", sum := "77c2c63e216b155c5d9e3cc5cf2a4c5c0fefa6469c0b7543b5e0d1ecc2269e15", func := "pub-shipwright/laws.FnPathStars", spec := "fnPathStars", inPlace := ["internal/abi.NoEscape", "internal/bytealg.MakeNoZero"], apart := false }
def FnPathStarsSaid : Prop := fnPathStarsRow.holds Try.pinned (OpenSpec.ofChange fnPathStarsSpec)

/-- ITS FALSE NEIGHBOUR: 'it returns false'. Refute it at one input. -/
def fnPathStarsWrong : ChangeSpec := { name := "fnPathStars", fn := fun _ => fun
  | [d1, d2, d3] => { results := [.lit (.bool false)], args := [d1, d2, d3] }
  | _ => none }
def FnPathStarsWrongFalsely : Prop := fnPathStarsRow.holds Try.pinned (OpenSpec.ofChange fnPathStarsWrong)

/-- 'laws.FnPathAbove': WHATEVER THE INPUT: true; the input reads as it did. -/
def fnPathAboveSpec : ChangeSpec := { name := "fnPathAbove", fn := fun _ => fun
  | [d1, d2] => { results := [.lit (.bool true)], args := [d1, d2] }
  | _ => none }
def fnPathAboveRow : OpenClaim := { program := "ytecehldjeppjiaa", sum := "77c2c63e216b155c5d9e3cc5cf2a4c5c0fefa6469c0b7543b5e0d1ecc2269e15", func := "pub-shipwright/laws.FnPathAbove", spec := "fnPathAbove", inPlace := ["internal/abi.NoEscape", "internal/bytealg.MakeNoZero"], apart := false }
def FnPathAboveSaid : Prop := fnPathAboveRow.holds Try.pinned (OpenSpec.ofChange fnPathAboveSpec)

/-- ITS FALSE NEIGHBOUR: 'it returns false'. Refute it at one input. -/
def fnPathAboveWrong : ChangeSpec := { name := "fnPathAbove", fn := fun _ => fun
  | [d1, d2] => { results := [.lit (.bool false)], args := [d1, d2] }
  | _ => none }
def FnPathAboveWrongFalsely : Prop := fnPathAboveRow.holds Try.pinned (OpenSpec.ofChange fnPathAboveWrong)

/- THE SECOND FORM. 'bulk': how many values and letters a reading holds, each counted each time it is reached (what is shared counts as often as it is met; a slice's spare places count too). A statement '..UptoSaid' is the law's where the arguments, and the package variables that the reading takes, are together of bulk at most 1048576: NARROWER than '..Said'. Prove '..Said' where nothing that the law and all that it calls make is longer than what came in: it says more and counts as full. Else prove '..UptoSaid'. A law counts once. -/
mutual
def uptoBulk {H : Type} : DataW H → Nat
  | .lit (.string bytes) => bytes.length + 1
  | .lit _ => 1
  | .nil => 1
  | .ptr d => uptoBulk d + 1
  | .slice elems spare => uptoBulkAll elems + uptoBulkAll spare + 1
  | .agg parts => uptoBulkAll parts + 1
  | .iface _ d => uptoBulk d + 1
  | .map entries => uptoBulkEntries entries + 1
  | .held _ => 1
def uptoBulkAll {H : Type} : List (DataW H) → Nat
  | [] => 0
  | d :: r => uptoBulk d + uptoBulkAll r
def uptoBulkEntries {H : Type} : List (Lit × DataW H) → Nat
  | [] => 0
  | x :: r => uptoBulkEntry x + uptoBulkEntries r
def uptoBulkEntry {H : Type} : Lit × DataW H → Nat
  | (.string bytes, d) => bytes.length + uptoBulk d + 1
  | (_, d) => uptoBulk d + 1
 end
def uptoSmall : (H : Type) → List (DataW H) → Bool := fun _ ds => decide (uptoBulkAll ds ≤ 1048576)
def OpenSpec.upto (s : _root_.Go.ChangeSpec) : _root_.Go.OpenSpec := { _root_.Go.OpenSpec.ofChange s with cond := some uptoSmall }

/-- 'laws.FnFirstBrace', WHERE WHAT IT READS IS OF BULK AT MOST 1048576: true; the input reads as it did. -/
def fnFirstBraceUptoRow : OpenClaim := { program := "ytecehldjeppjiaa", sum := "77c2c63e216b155c5d9e3cc5cf2a4c5c0fefa6469c0b7543b5e0d1ecc2269e15", func := "pub-shipwright/laws.FnFirstBrace", spec := "fnFirstBrace", apart := false, narrowed := true }
def FnFirstBraceUptoSaid : Prop := fnFirstBraceUptoRow.holds Try.pinned (OpenSpec.upto fnFirstBraceSpec)

/-- 'laws.FnPathParts', WHERE WHAT IT READS IS OF BULK AT MOST 1048576: true; the input reads as it did. -/
def fnPathPartsUptoRow : OpenClaim := { program := "ytecehldjeppjiaa", sum := "77c2c63e216b155c5d9e3cc5cf2a4c5c0fefa6469c0b7543b5e0d1ecc2269e15", func := "pub-shipwright/laws.FnPathParts", spec := "fnPathParts", inPlace := ["internal/abi.NoEscape", "internal/bytealg.MakeNoZero"], apart := false, narrowed := true }
def FnPathPartsUptoSaid : Prop := fnPathPartsUptoRow.holds Try.pinned (OpenSpec.upto fnPathPartsSpec)

/-- 'laws.FnPathMay', WHERE WHAT IT READS IS OF BULK AT MOST 1048576: true; the input reads as it did. -/
def fnPathMayUptoRow : OpenClaim := { program := "ytecehldjeppjiaa", sum := "77c2c63e216b155c5d9e3cc5cf2a4c5c0fefa6469c0b7543b5e0d1ecc2269e15", func := "pub-shipwright/laws.FnPathMay", spec := "fnPathMay", inPlace := ["internal/abi.NoEscape", "internal/bytealg.MakeNoZero"], apart := false, narrowed := true }
def FnPathMayUptoSaid : Prop := fnPathMayUptoRow.holds Try.pinned (OpenSpec.upto fnPathMaySpec)

/-- 'laws.FnPathStars', WHERE WHAT IT READS IS OF BULK AT MOST 1048576: true; the input reads as it did. -/
def fnPathStarsUptoRow : OpenClaim := { program := "ytecehldjeppjiaa", sum := "77c2c63e216b155c5d9e3cc5cf2a4c5c0fefa6469c0b7543b5e0d1ecc2269e15", func := "pub-shipwright/laws.FnPathStars", spec := "fnPathStars", inPlace := ["internal/abi.NoEscape", "internal/bytealg.MakeNoZero"], apart := false, narrowed := true }
def FnPathStarsUptoSaid : Prop := fnPathStarsUptoRow.holds Try.pinned (OpenSpec.upto fnPathStarsSpec)

/-- 'laws.FnPathAbove', WHERE WHAT IT READS IS OF BULK AT MOST 1048576: true; the input reads as it did. -/
def fnPathAboveUptoRow : OpenClaim := { program := "ytecehldjeppjiaa", sum := "77c2c63e216b155c5d9e3cc5cf2a4c5c0fefa6469c0b7543b5e0d1ecc2269e15", func := "pub-shipwright/laws.FnPathAbove", spec := "fnPathAbove", inPlace := ["internal/abi.NoEscape", "internal/bytealg.MakeNoZero"], apart := false, narrowed := true }
def FnPathAboveUptoSaid : Prop := fnPathAboveUptoRow.holds Try.pinned (OpenSpec.upto fnPathAboveSpec)

end Rows
end Go.Proofs.Ytecehldjeppjiaa
