/-
  The walk through fcmp64.
-/
import Derived.Test.YtlagofjbgjhenaaUnpWalk
import Derived.Test.YtlagofjbgjhenaaFrame
import Derived.Deep.DeepCutAuto
namespace Go.Proofs.Ytlagofjbgjhenaa.SF
open Go.ChangeShapes Go.WideShapes Go.ChangeAt Go.RowKit
set_option linter.unusedVariables false

end Go.Proofs.Ytlagofjbgjhenaa.SF
