/-
  The walk through fmul64.
-/
import Derived.Test.YtignbdajgnnlpaaPackR
import Derived.Test.YtignbdajgnnlpaaMul
namespace Go.Proofs.Ytignbdajgnnlpaa.SF
open Go.ChangeShapes Go.WideShapes Go.ChangeAt Go.RowKit
set_option linter.unusedVariables false

end Go.Proofs.Ytignbdajgnnlpaa.SF
