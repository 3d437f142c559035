/-
  The walk through the laws' own 'alike'.
-/
import Derived.Test.YtignbdajgnnlpaaFmt
import Derived.Test.YtignbdajgnnlpaaRn
namespace Go.Proofs.Ytignbdajgnnlpaa.SF
open Go.ChangeShapes Go.WideShapes Go.ChangeAt Go.RowKit
set_option linter.unusedVariables false

end Go.Proofs.Ytignbdajgnnlpaa.SF
