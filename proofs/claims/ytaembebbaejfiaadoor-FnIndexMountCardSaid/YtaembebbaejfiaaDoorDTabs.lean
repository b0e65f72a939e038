/- The library's tables that FnIndexMount's row lists: the walk asks for none. -/
import Derived.Test.YtaembebbaejfiaaDoorLawMount
import Derived.Test.YtaembebbaejfiaaDoorCards
import Derived.Test.YtaembebbaejfiaaDoorRowKit
import Derived.PinnedBridge
namespace Go.Proofs.YtaembebbaejfiaaDoor.DTabs
set_option linter.unusedVariables false
open Go.RowKit Go.Lib
theorem any {W : World} (hL : laidMet Tryd.prog Rows.fnIndexMountRow.laid W) : True := trivial
end Go.Proofs.YtaembebbaejfiaaDoor.DTabs
