/-
  The walk through the reference's Cmp.
-/
import Derived.Test.YtpjanmahbimhkaaFmtB
import Derived.Deep.DeepCutAuto
namespace Go.Proofs.Ytpjanmahbimhkaa.SF
open Go.ChangeShapes Go.WideShapes Go.ChangeAt Go.RowKit
set_option linter.unusedVariables false

end Go.Proofs.Ytpjanmahbimhkaa.SF
