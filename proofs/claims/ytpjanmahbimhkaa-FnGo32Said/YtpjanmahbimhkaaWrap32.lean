/-
  The thin package's sums, products and quotients of 32 bits.
-/
import Derived.Test.YtpjanmahbimhkaaWrap
import Derived.Test.YtpjanmahbimhkaaDR3
namespace Go.Proofs.Ytpjanmahbimhkaa.SF
open Go.ChangeShapes Go.WideShapes Go.ChangeAt Go.RowKit
theorem fadd32_ret (x y : Nat) (w : World) (hx : x < 4294967296) (hy : y < 4294967296) : Calls Try.prog 94 #[.int .u32 (x : Int), .int .u32 (y : Int)] w (RetW (.int .u32 ((add32 x y : Nat) : Int)) w) := by
  have := fadd32_raw x y w hx hy
  rwa [add32_eq hx hy] at this
theorem implAdd32 (x y : Nat) (w : World) (hx : x < 4294967296) (hy : y < 4294967296) : Calls Try.prog 41 #[.int .u32 (x : Int), .int .u32 (y : Int)] w (RetW (.int .u32 ((add32 x y : Nat) : Int)) w) := by
  have := implAdd32R x y w hx hy
  rwa [add32_eq hx hy] at this
theorem implMul32 (x y : Nat) (w : World) (hx : x < 4294967296) (hy : y < 4294967296) : Calls Try.prog 43 #[.int .u32 (x : Int), .int .u32 (y : Int)] w (RetW (.int .u32 ((mul32 x y : Nat) : Int)) w) := by
  have := implMul32R x y w hx hy
  rwa [mul32_eq] at this
theorem implDiv32 (x y : Nat) (w : World) (hx : x < 4294967296) (hy : y < 4294967296) : Calls Try.prog 44 #[.int .u32 (x : Int), .int .u32 (y : Int)] w (RetW (.int .u32 ((div32 x y : Nat) : Int)) w) := by
  have := implDiv32R x y w hx hy
  rwa [div32_eq] at this
end Go.Proofs.Ytpjanmahbimhkaa.SF
