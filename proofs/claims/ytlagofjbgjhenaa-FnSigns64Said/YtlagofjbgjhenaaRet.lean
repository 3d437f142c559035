/-
  Contracts that return a value and leave the world as it is.
-/
import Derived.Test.YtlagofjbgjhenaaCmpWalk
import Derived.Test.YtlagofjbgjhenaaFrame
namespace Go.Proofs.Ytlagofjbgjhenaa.SF
open Go.ChangeShapes Go.WideShapes Go.ChangeAt Go.RowKit
set_option linter.unusedVariables false

def RetW (v : Value) (w : World) : Ending → World → Prop := fun e w' => e = .returned v ∧ w = w'

end Go.Proofs.Ytlagofjbgjhenaa.SF
