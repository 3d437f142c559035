/-
  The walks through the reference's numbers: NatMul.
-/
import Derived.Test.YtpjanmahbimhkaaNatD
import Derived.Deep.QuietTactic
import Derived.BigQuiet
import Derived.Deep.Draws
namespace Go.Proofs.Ytpjanmahbimhkaa.SF
open Go.ChangeShapes Go.WideShapes Go.ChangeAt Go.RowKit
set_option linter.unusedVariables false

end Go.Proofs.Ytpjanmahbimhkaa.SF
