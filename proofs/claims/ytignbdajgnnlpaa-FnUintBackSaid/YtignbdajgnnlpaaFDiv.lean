/-
  The walk through fdiv64.
-/
import Derived.Test.YtignbdajgnnlpaaPackR
import Derived.Test.YtignbdajgnnlpaaDivWalk
namespace Go.Proofs.Ytignbdajgnnlpaa.SF
open Go.ChangeShapes Go.WideShapes Go.ChangeAt Go.RowKit
set_option linter.unusedVariables false

theorem div_aux {vx vy mx my T1 T2 S a b c T : Nat} (hv1 : mx * T1 = vx * S) (hv2 : my * T2 = vy * S) (hc : c * (T * T2) = T1 * (a * b)) (h0 : 0 < T2 * S) : vx * a * (my * b) = mx * c * T * vy := by
  apply Nat.eq_of_mul_eq_mul_right h0
  calc vx * a * (my * b) * (T2 * S) = (vx * S) * (my * T2) * (a * b) := by ac_rfl
    _ = (mx * T1) * (vy * S) * (a * b) := by rw [hv1, hv2]
    _ = mx * (vy * S) * (T1 * (a * b)) := by ac_rfl
    _ = mx * (vy * S) * (c * (T * T2)) := by rw [hc]
    _ = mx * c * T * vy * (T2 * S) := by ac_rfl

end Go.Proofs.Ytignbdajgnnlpaa.SF
