/-
  The walk through the laws' own 'alike'.
-/
import Derived.Test.YthbdijmoohfomaaFmt
import Derived.Test.YthbdijmoohfomaaRn
namespace Go.Proofs.Ythbdijmoohfomaa.SF
open Go.ChangeShapes Go.WideShapes Go.ChangeAt Go.RowKit
set_option linter.unusedVariables false

end Go.Proofs.Ythbdijmoohfomaa.SF
