/-
  Two local formats side by side.
-/
import Derived.Test.YtdadcbjhjmdheaaFmtB
namespace Go.Proofs.Ytdadcbjhjmdheaa.SF
open Go.ChangeShapes Go.WideShapes Go.ChangeAt Go.RowKit
set_option linter.unusedVariables false

abbrev TWA (w w' : World) : Prop := FB64 w w' ∧ w'.cell? ⟨w.heap.size + 1, 0, none⟩ = some (.int .i64 24) ∧ w'.cell? ⟨w.heap.size + 1, 1, none⟩ = some (.int .i64 23) ∧ w'.cell? ⟨w.heap.size + 1, 2, none⟩ = some (.int .i64 (-149)) ∧ w'.cell? ⟨w.heap.size + 1, 3, none⟩ = some (.int .u64 255) ∧ w'.cell? ⟨w.heap.size + 1, 4, none⟩ = some (.int .u64 2147483648) ∧ w.heap.size + 1 < w'.heap.size
theorem TWA.start0 (w : World) : TWA w ((w.alloc (.cells #[.int .i64 53, .int .i64 52, .int .i64 (-1074), .int .u64 2047, .int .u64 9223372036854775808] 26)).alloc (.cells #[.int .i64 24, .int .i64 23, .int .i64 (-149), .int .u64 255, .int .u64 2147483648] 26)) := by
  have hz : (w.alloc (.cells #[.int .i64 53, .int .i64 52, .int .i64 (-1074), .int .u64 2047, .int .u64 9223372036854775808] 26)).heap.size = w.heap.size + 1 := by simp
  have h := FB32.start0 (w.alloc (.cells #[.int .i64 53, .int .i64 52, .int .i64 (-1074), .int .u64 2047, .int .u64 9223372036854775808] 26))
  obtain ⟨a, b, c, d, e, f, g⟩ := h
  rw [hz] at a b c d e f
  exact ⟨FB64.step (FB64.start0 w) ((Below.refl _ _).alloc (Nat.le_refl _) _), a, b, c, d, e, f⟩
theorem TWA.step {w W w1 : World} (h : TWA w W) (hb : Below W.heap.size W w1) : TWA w w1 := by
  obtain ⟨h0, a, b, c, d, e, f⟩ := h
  have hc := bcell hb
  exact ⟨FB64.step h0 hb, (hc _ _ f).trans a, (hc _ _ f).trans b, (hc _ _ f).trans c, (hc _ _ f).trans d, (hc _ _ f).trans e, Nat.lt_of_lt_of_le f hb.size⟩
theorem TWA.drew {w W : World} (h : TWA w W) : TWA w W.drew := ⟨FB64.drew h.1, h.2⟩
end Go.Proofs.Ytdadcbjhjmdheaa.SF
