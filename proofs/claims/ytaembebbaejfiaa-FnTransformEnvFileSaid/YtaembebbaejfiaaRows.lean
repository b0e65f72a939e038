/-
  NARROWER THAN 'FOR EVERY INPUT', by the rows' own cells (each row's printed sentence says how): FnTransformNetworks: loops · FnTransformContexts: loops.
  DERIVED. THE GIVEN ROWS OF THIS SEAT. 3 by the template 'for every input the law returns true; each argument reads behind the call as it read before'; 0 by the template 'total and deterministic' (their statements: YtaembebbaejfiaaTotals.lean).
  GIVEN WITH THE SEED: the statements are not yours to turn. If you find one false, say at which input.
  Laid BY PROGRAM, IN A SANDBOX (cutbox-rows.mjs): the forced cells as the released guide's own fill.sh prints them over the translation f945dc2a1467c8c4… (all of the seat's roots in one cut). By AI agents, Wed Nov 11 2026. No macro, syntax, notation, axiom, sorry.
-/
import Derived.Test.YtaembebbaejfiaaChecked
import GoSem.Claim
import GoSem.ClaimJoined
import GoSem.ClaimMapViews
import Derived.JoinedTies
import Derived.KernelRfl
namespace Go.Proofs.Ytaembebbaejfiaa
/- THE CELL 'sum', in the pinned program and in every row, IS THE sha256 OF THE DUMP (.gsa) THAT YtaembebbaejfiaaProg.lean LOADS. Nothing in Lean hashes anything: it is a label: what it is worth is what the hold of that sum in a sandbox is worth. -/
noncomputable def Try.pinned : Pinned := { name := "ytaembebbaejfiaa", sum := "f945dc2a1467c8c4be3cebebf5930555b66f9db29049ff7594be015caa9b5cbc", checked := Try.checked }
namespace Rows
def none {H : Type} : Left H := { results := [], args := [] }

/-- 'laws.FnTransformNetworks': WHATEVER THE INPUT: true; the input reads as it did. -/
def fnTransformNetworksSpec : ChangeSpec := { name := "fnTransformNetworks", fn := fun _ => fun
  | [d1, d2] => { results := [.lit (.bool true)], args := [d1, d2] }
  | _ => none }
def fnTransformNetworksRow : OpenClaim := { program := "ytaembebbaejfiaa", sum := "f945dc2a1467c8c4be3cebebf5930555b66f9db29049ff7594be015caa9b5cbc", func := "pub-shipwright/laws.FnTransformNetworks", spec := "fnTransformNetworks", inPlace := ["internal/abi.NoEscape", "internal/bytealg.MakeNoZero"], unfollowed := true, recurses := true, loops := true, apart := false }
def FnTransformNetworksSaid : Prop := fnTransformNetworksRow.holds Try.pinned (OpenSpec.ofChange fnTransformNetworksSpec)

/-- ITS FALSE NEIGHBOUR: 'it returns false'. Refute it at one input. -/
def fnTransformNetworksWrong : ChangeSpec := { name := "fnTransformNetworks", fn := fun _ => fun
  | [d1, d2] => { results := [.lit (.bool false)], args := [d1, d2] }
  | _ => none }
def FnTransformNetworksWrongFalsely : Prop := fnTransformNetworksRow.holds Try.pinned (OpenSpec.ofChange fnTransformNetworksWrong)

/-- 'laws.FnTransformEnvFile': WHATEVER THE INPUT: true; the input reads as it did. -/
def fnTransformEnvFileSpec : ChangeSpec := { name := "fnTransformEnvFile", fn := fun _ => fun
  | [d1, d2] => { results := [.lit (.bool true)], args := [d1, d2] }
  | _ => none }
def fnTransformEnvFileRow : OpenClaim := { program := "ytaembebbaejfiaa", sum := "f945dc2a1467c8c4be3cebebf5930555b66f9db29049ff7594be015caa9b5cbc", func := "pub-shipwright/laws.FnTransformEnvFile", spec := "fnTransformEnvFile", inPlace := ["internal/abi.NoEscape", "internal/bytealg.MakeNoZero"], recurses := true, apart := false }
def FnTransformEnvFileSaid : Prop := fnTransformEnvFileRow.holds Try.pinned (OpenSpec.ofChange fnTransformEnvFileSpec)

/-- ITS FALSE NEIGHBOUR: 'it returns false'. Refute it at one input. -/
def fnTransformEnvFileWrong : ChangeSpec := { name := "fnTransformEnvFile", fn := fun _ => fun
  | [d1, d2] => { results := [.lit (.bool false)], args := [d1, d2] }
  | _ => none }
def FnTransformEnvFileWrongFalsely : Prop := fnTransformEnvFileRow.holds Try.pinned (OpenSpec.ofChange fnTransformEnvFileWrong)

/-- 'laws.FnTransformContexts': WHATEVER THE INPUT: true; the input reads as it did. -/
def fnTransformContextsSpec : ChangeSpec := { name := "fnTransformContexts", fn := fun _ => fun
  | [d1, d2] => { results := [.lit (.bool true)], args := [d1, d2] }
  | _ => none }
def fnTransformContextsRow : OpenClaim := { program := "ytaembebbaejfiaa", sum := "f945dc2a1467c8c4be3cebebf5930555b66f9db29049ff7594be015caa9b5cbc", func := "pub-shipwright/laws.FnTransformContexts", spec := "fnTransformContexts", inPlace := ["internal/abi.NoEscape", "internal/bytealg.MakeNoZero"], unfollowed := true, recurses := true, loops := true, apart := false }
def FnTransformContextsSaid : Prop := fnTransformContextsRow.holds Try.pinned (OpenSpec.ofChange fnTransformContextsSpec)

/-- ITS FALSE NEIGHBOUR: 'it returns false'. Refute it at one input. -/
def fnTransformContextsWrong : ChangeSpec := { name := "fnTransformContexts", fn := fun _ => fun
  | [d1, d2] => { results := [.lit (.bool false)], args := [d1, d2] }
  | _ => none }
def FnTransformContextsWrongFalsely : Prop := fnTransformContextsRow.holds Try.pinned (OpenSpec.ofChange fnTransformContextsWrong)

/- THE SECOND FORM. 'bulk': how many values and letters a reading holds, each counted each time it is reached (what is shared counts as often as it is met; a slice's spare places count too). A statement '..UptoSaid' is the law's where the arguments, and the package variables that the reading takes, are together of bulk at most 1048576: NARROWER than '..Said'. Prove '..Said' where nothing that the law and all that it calls make is longer than what came in: it says more and counts as full. Else prove '..UptoSaid'. A law counts once. -/
mutual
def uptoBulk {H : Type} : DataW H → Nat
  | .lit (.string bytes) => bytes.length + 1
  | .lit _ => 1
  | .nil => 1
  | .ptr d => uptoBulk d + 1
  | .slice elems spare => uptoBulkAll elems + uptoBulkAll spare + 1
  | .agg parts => uptoBulkAll parts + 1
  | .iface _ d => uptoBulk d + 1
  | .map entries => uptoBulkEntries entries + 1
  | .held _ => 1
def uptoBulkAll {H : Type} : List (DataW H) → Nat
  | [] => 0
  | d :: r => uptoBulk d + uptoBulkAll r
def uptoBulkEntries {H : Type} : List (Lit × DataW H) → Nat
  | [] => 0
  | x :: r => uptoBulkEntry x + uptoBulkEntries r
def uptoBulkEntry {H : Type} : Lit × DataW H → Nat
  | (.string bytes, d) => bytes.length + uptoBulk d + 1
  | (_, d) => uptoBulk d + 1
 end
def uptoSmall : (H : Type) → List (DataW H) → Bool := fun _ ds => decide (uptoBulkAll ds ≤ 1048576)
def OpenSpec.upto (s : _root_.Go.ChangeSpec) : _root_.Go.OpenSpec := { _root_.Go.OpenSpec.ofChange s with cond := some uptoSmall }

/-- 'laws.FnTransformNetworks', WHERE WHAT IT READS IS OF BULK AT MOST 1048576: true; the input reads as it did. -/
def fnTransformNetworksUptoRow : OpenClaim := { program := "ytaembebbaejfiaa", sum := "f945dc2a1467c8c4be3cebebf5930555b66f9db29049ff7594be015caa9b5cbc", func := "pub-shipwright/laws.FnTransformNetworks", spec := "fnTransformNetworks", inPlace := ["internal/abi.NoEscape", "internal/bytealg.MakeNoZero"], unfollowed := true, recurses := true, loops := true, apart := false, narrowed := true }
def FnTransformNetworksUptoSaid : Prop := fnTransformNetworksUptoRow.holds Try.pinned (OpenSpec.upto fnTransformNetworksSpec)

/-- 'laws.FnTransformEnvFile', WHERE WHAT IT READS IS OF BULK AT MOST 1048576: true; the input reads as it did. -/
def fnTransformEnvFileUptoRow : OpenClaim := { program := "ytaembebbaejfiaa", sum := "f945dc2a1467c8c4be3cebebf5930555b66f9db29049ff7594be015caa9b5cbc", func := "pub-shipwright/laws.FnTransformEnvFile", spec := "fnTransformEnvFile", inPlace := ["internal/abi.NoEscape", "internal/bytealg.MakeNoZero"], recurses := true, apart := false, narrowed := true }
def FnTransformEnvFileUptoSaid : Prop := fnTransformEnvFileUptoRow.holds Try.pinned (OpenSpec.upto fnTransformEnvFileSpec)

/-- 'laws.FnTransformContexts', WHERE WHAT IT READS IS OF BULK AT MOST 1048576: true; the input reads as it did. -/
def fnTransformContextsUptoRow : OpenClaim := { program := "ytaembebbaejfiaa", sum := "f945dc2a1467c8c4be3cebebf5930555b66f9db29049ff7594be015caa9b5cbc", func := "pub-shipwright/laws.FnTransformContexts", spec := "fnTransformContexts", inPlace := ["internal/abi.NoEscape", "internal/bytealg.MakeNoZero"], unfollowed := true, recurses := true, loops := true, apart := false, narrowed := true }
def FnTransformContextsUptoSaid : Prop := fnTransformContextsUptoRow.holds Try.pinned (OpenSpec.upto fnTransformContextsSpec)

end Rows
end Go.Proofs.Ytaembebbaejfiaa
