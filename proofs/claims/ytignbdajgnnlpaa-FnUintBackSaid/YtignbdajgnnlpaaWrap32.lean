/-
  The thin package's sums, products and quotients of 32 bits.
-/
import Derived.Test.YtignbdajgnnlpaaWrap
import Derived.Test.YtignbdajgnnlpaaDR3
namespace Go.Proofs.Ytignbdajgnnlpaa.SF
open Go.ChangeShapes Go.WideShapes Go.ChangeAt Go.RowKit
theorem fadd32_ret (x y : Nat) (w : World) (hx : x < 4294967296) (hy : y < 4294967296) : Calls Try.prog 80 #[.int .u32 (x : Int), .int .u32 (y : Int)] w (RetW (.int .u32 ((add32 x y : Nat) : Int)) w) := by
  have := fadd32_raw x y w hx hy
  rwa [add32_eq hx hy] at this
end Go.Proofs.Ytignbdajgnnlpaa.SF
