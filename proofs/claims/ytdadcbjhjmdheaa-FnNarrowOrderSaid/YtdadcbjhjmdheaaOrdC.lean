/-
  Plain mathematics: how two places stand to each other.
-/
import Derived.Test.YtdadcbjhjmdheaaAlgB
namespace Go.Proofs.Ytdadcbjhjmdheaa.SF
theorem ord_cases (a b : Int) : ordI a b = -1 ∨ ordI a b = 0 ∨ ordI a b = 1 := by unfold ordI; split <;> (try split) <;> simp
theorem ord_le {a b : Int} : ordI a b ≤ 0 ↔ a ≤ b := by unfold ordI; split <;> (try split) <;> omega
theorem ord_nle {a b : Int} : 0 < ordI a b ↔ b < a := by unfold ordI; split <;> (try split) <;> omega
theorem ord_lt_iff {a b : Int} : ordI a b < 0 ↔ a < b := by unfold ordI; split <;> (try split) <;> omega
end Go.Proofs.Ytdadcbjhjmdheaa.SF
