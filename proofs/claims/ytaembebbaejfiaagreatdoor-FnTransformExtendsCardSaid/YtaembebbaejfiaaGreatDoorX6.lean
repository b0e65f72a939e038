/- Parts of the proof, laid together: QSpecFit. -/
import Derived.Test.YtaembebbaejfiaaGreatDoorX3
import Derived.Test.YtaembebbaejfiaaGreatDoorX5
namespace Go.Proofs.YtaembebbaejfiaaGreatDoor.PS
open Go.RowKit Go.Proofs.YtaembebbaejfiaaGreatDoorW.PrintWords Go.Proofs.YtaembebbaejfiaaGreatDoorW.PrintLast Go.Proofs.YtaembebbaejfiaaGreatDoorW.PrintMore
attribute [local go_sem] max2_int min2_int max_two min_two max_three min_three max_four min_four 
set_option linter.unusedVariables false
set_option linter.unusedSimpArgs false
end Go.Proofs.YtaembebbaejfiaaGreatDoor.PS
