/-
  The walk through the reference's Cmp.
-/
import Derived.Test.YtignbdajgnnlpaaFmtB
import Derived.Deep.DeepCutAuto
namespace Go.Proofs.Ytignbdajgnnlpaa.SF
open Go.ChangeShapes Go.WideShapes Go.ChangeAt Go.RowKit
set_option linter.unusedVariables false

end Go.Proofs.Ytignbdajgnnlpaa.SF
