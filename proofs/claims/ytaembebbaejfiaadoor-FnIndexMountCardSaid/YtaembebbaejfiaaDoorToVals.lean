/- what laws.to makes of the values asked here. -/
import Derived.Test.YtaembebbaejfiaaDoorPFnIndexMountx2
namespace Go.Proofs.YtaembebbaejfiaaDoor.Mount
open Go.RowKit Go.Proofs.YtaembebbaejfiaaDoorW.PrintWords Go.Proofs.YtaembebbaejfiaaDoor.PFnIndexMount
set_option linter.unusedVariables false
set_option linter.unusedSimpArgs false
/-- a text, taken over -/
theorem to_text (s : ByteArray) : laws_to.f 2 3 0 s [] [] = some (3, 0, s, [], []) := by
  simp [laws_to.f, laws_to.l0]
/-- a mapping with one text, taken over -/
theorem to_one (k s : ByteArray) : laws_to.f 4 5 0 ⟨#[]⟩ [k] [⟨3, 0, s, [], []⟩] = some (5, 0, ⟨#[]⟩, [k], [⟨3, 0, s, [], []⟩]) := by
  simp [laws_to.f, laws_to.l0, rd_T32, wrap64]
end Go.Proofs.YtaembebbaejfiaaDoor.Mount
