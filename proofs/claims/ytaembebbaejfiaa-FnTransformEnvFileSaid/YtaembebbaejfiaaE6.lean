/- Parts of the proof, laid together: QSpecFit. -/
import Derived.Test.YtaembebbaejfiaaE3
import Derived.Test.YtaembebbaejfiaaE5
namespace Go.Proofs.Ytaembebbaejfiaa.PS
open Go.RowKit Go.Proofs.YtaembebbaejfiaaW.PrintWords Go.Proofs.YtaembebbaejfiaaW.PrintLast Go.Proofs.YtaembebbaejfiaaW.PrintMore
attribute [local go_sem] max2_int min2_int max_two min_two max_three min_three max_four min_four 
set_option linter.unusedVariables false
set_option linter.unusedSimpArgs false
end Go.Proofs.Ytaembebbaejfiaa.PS
