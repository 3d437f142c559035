/-
  No cell of these rows narrows 'for every input' (looked for: loops, veiled, ifaces, maps, wideKeys, modest, calm, conditions, laid).
  DERIVED. THE GIVEN ROWS OF THIS SEAT. 12 by the template 'for every input the law returns true; each argument reads behind the call as it read before'; 0 by the template 'total and deterministic' (their statements: YtdadcbjhjmdheaaTotals.lean).
  GIVEN WITH THE SEED: the statements are not yours to turn. If you find one false, say at which input.
  Laid BY PROGRAM, IN A SANDBOX (cutbox-rows.mjs): the forced cells as the released guide's own fill.sh prints them over the translation 2a4bfec07606a81f… (all of the seat's roots in one cut). By AI agents, Wed Nov 11 2026. No macro, syntax, notation, axiom, sorry.
-/
import Derived.Test.YtdadcbjhjmdheaaChecked
import GoSem.Claim
import GoSem.ClaimJoined
import GoSem.ClaimMapViews
import Derived.JoinedTies
import Derived.KernelRfl
namespace Go.Proofs.Ytdadcbjhjmdheaa
/- THE CELL 'sum', in the pinned program and in every row, IS THE sha256 OF THE DUMP (.gsa) THAT YtdadcbjhjmdheaaProg.lean LOADS. Nothing in Lean hashes anything: it is a label: what it is worth is what the hold of that sum in a sandbox is worth. -/
noncomputable def Try.pinned : Pinned := { name := "ytdadcbjhjmdheaa", sum := "2a4bfec07606a81f95ae408c20b72d24eb9bfe262265357140749ad0a68c1fad", checked := Try.checked }
namespace Rows
def none {H : Type} : Left H := { results := [], args := [] }

/-- 'laws.FnCommute32': WHATEVER THE INPUT: true; the input reads as it did. -/
def fnCommute32Spec : ChangeSpec := { name := "fnCommute32", fn := fun _ => fun
  | [d1, d2] => { results := [.lit (.bool true)], args := [d1, d2] }
  | _ => none }
def fnCommute32Row : OpenClaim := { program := "ytdadcbjhjmdheaa", sum := "2a4bfec07606a81f95ae408c20b72d24eb9bfe262265357140749ad0a68c1fad", func := "loop.example/pub-softwarefloats/laws.FnCommute32", spec := "fnCommute32", apart := false }
def FnCommute32Said : Prop := fnCommute32Row.holds Try.pinned (OpenSpec.ofChange fnCommute32Spec)

/-- ITS FALSE NEIGHBOUR: 'it returns false'. Refute it at one input. -/
def fnCommute32Wrong : ChangeSpec := { name := "fnCommute32", fn := fun _ => fun
  | [d1, d2] => { results := [.lit (.bool false)], args := [d1, d2] }
  | _ => none }
def FnCommute32WrongFalsely : Prop := fnCommute32Row.holds Try.pinned (OpenSpec.ofChange fnCommute32Wrong)

/-- 'laws.FnDouble32': WHATEVER THE INPUT: true; the input reads as it did. -/
def fnDouble32Spec : ChangeSpec := { name := "fnDouble32", fn := fun _ => fun
  | [d] => { results := [.lit (.bool true)], args := [d] }
  | _ => none }
def fnDouble32Row : OpenClaim := { program := "ytdadcbjhjmdheaa", sum := "2a4bfec07606a81f95ae408c20b72d24eb9bfe262265357140749ad0a68c1fad", func := "loop.example/pub-softwarefloats/laws.FnDouble32", spec := "fnDouble32", apart := false }
def FnDouble32Said : Prop := fnDouble32Row.holds Try.pinned (OpenSpec.ofChange fnDouble32Spec)

/-- ITS FALSE NEIGHBOUR: 'it returns false'. Refute it at one input. -/
def fnDouble32Wrong : ChangeSpec := { name := "fnDouble32", fn := fun _ => fun
  | [d] => { results := [.lit (.bool false)], args := [d] }
  | _ => none }
def FnDouble32WrongFalsely : Prop := fnDouble32Row.holds Try.pinned (OpenSpec.ofChange fnDouble32Wrong)

/-- 'laws.FnHalf32': WHATEVER THE INPUT: true; the input reads as it did. -/
def fnHalf32Spec : ChangeSpec := { name := "fnHalf32", fn := fun _ => fun
  | [d] => { results := [.lit (.bool true)], args := [d] }
  | _ => none }
def fnHalf32Row : OpenClaim := { program := "ytdadcbjhjmdheaa", sum := "2a4bfec07606a81f95ae408c20b72d24eb9bfe262265357140749ad0a68c1fad", func := "loop.example/pub-softwarefloats/laws.FnHalf32", spec := "fnHalf32", apart := false }
def FnHalf32Said : Prop := fnHalf32Row.holds Try.pinned (OpenSpec.ofChange fnHalf32Spec)

/-- ITS FALSE NEIGHBOUR: 'it returns false'. Refute it at one input. -/
def fnHalf32Wrong : ChangeSpec := { name := "fnHalf32", fn := fun _ => fun
  | [d] => { results := [.lit (.bool false)], args := [d] }
  | _ => none }
def FnHalf32WrongFalsely : Prop := fnHalf32Row.holds Try.pinned (OpenSpec.ofChange fnHalf32Wrong)

/-- 'laws.FnExactOrder32': WHATEVER THE INPUT: true; the input reads as it did. -/
def fnExactOrder32Spec : ChangeSpec := { name := "fnExactOrder32", fn := fun _ => fun
  | [d1, d2] => { results := [.lit (.bool true)], args := [d1, d2] }
  | _ => none }
def fnExactOrder32Row : OpenClaim := { program := "ytdadcbjhjmdheaa", sum := "2a4bfec07606a81f95ae408c20b72d24eb9bfe262265357140749ad0a68c1fad", func := "loop.example/pub-softwarefloats/laws.FnExactOrder32", spec := "fnExactOrder32", apart := false }
def FnExactOrder32Said : Prop := fnExactOrder32Row.holds Try.pinned (OpenSpec.ofChange fnExactOrder32Spec)

/-- ITS FALSE NEIGHBOUR: 'it returns false'. Refute it at one input. -/
def fnExactOrder32Wrong : ChangeSpec := { name := "fnExactOrder32", fn := fun _ => fun
  | [d1, d2] => { results := [.lit (.bool false)], args := [d1, d2] }
  | _ => none }
def FnExactOrder32WrongFalsely : Prop := fnExactOrder32Row.holds Try.pinned (OpenSpec.ofChange fnExactOrder32Wrong)

/-- 'laws.FnMonotone32': WHATEVER THE INPUT: true; the input reads as it did. -/
def fnMonotone32Spec : ChangeSpec := { name := "fnMonotone32", fn := fun _ => fun
  | [d1, d2, d3] => { results := [.lit (.bool true)], args := [d1, d2, d3] }
  | _ => none }
def fnMonotone32Row : OpenClaim := { program := "ytdadcbjhjmdheaa", sum := "2a4bfec07606a81f95ae408c20b72d24eb9bfe262265357140749ad0a68c1fad", func := "loop.example/pub-softwarefloats/laws.FnMonotone32", spec := "fnMonotone32", apart := false }
def FnMonotone32Said : Prop := fnMonotone32Row.holds Try.pinned (OpenSpec.ofChange fnMonotone32Spec)

/-- ITS FALSE NEIGHBOUR: 'it returns false'. Refute it at one input. -/
def fnMonotone32Wrong : ChangeSpec := { name := "fnMonotone32", fn := fun _ => fun
  | [d1, d2, d3] => { results := [.lit (.bool false)], args := [d1, d2, d3] }
  | _ => none }
def FnMonotone32WrongFalsely : Prop := fnMonotone32Row.holds Try.pinned (OpenSpec.ofChange fnMonotone32Wrong)

/-- 'laws.FnMonotone64': WHATEVER THE INPUT: true; the input reads as it did. -/
def fnMonotone64Spec : ChangeSpec := { name := "fnMonotone64", fn := fun _ => fun
  | [d1, d2, d3] => { results := [.lit (.bool true)], args := [d1, d2, d3] }
  | _ => none }
def fnMonotone64Row : OpenClaim := { program := "ytdadcbjhjmdheaa", sum := "2a4bfec07606a81f95ae408c20b72d24eb9bfe262265357140749ad0a68c1fad", func := "loop.example/pub-softwarefloats/laws.FnMonotone64", spec := "fnMonotone64", apart := false }
def FnMonotone64Said : Prop := fnMonotone64Row.holds Try.pinned (OpenSpec.ofChange fnMonotone64Spec)

/-- ITS FALSE NEIGHBOUR: 'it returns false'. Refute it at one input. -/
def fnMonotone64Wrong : ChangeSpec := { name := "fnMonotone64", fn := fun _ => fun
  | [d1, d2, d3] => { results := [.lit (.bool false)], args := [d1, d2, d3] }
  | _ => none }
def FnMonotone64WrongFalsely : Prop := fnMonotone64Row.holds Try.pinned (OpenSpec.ofChange fnMonotone64Wrong)

/-- 'laws.FnOrderSub': WHATEVER THE INPUT: true; the input reads as it did. -/
def fnOrderSubSpec : ChangeSpec := { name := "fnOrderSub", fn := fun _ => fun
  | [d1, d2] => { results := [.lit (.bool true)], args := [d1, d2] }
  | _ => none }
def fnOrderSubRow : OpenClaim := { program := "ytdadcbjhjmdheaa", sum := "2a4bfec07606a81f95ae408c20b72d24eb9bfe262265357140749ad0a68c1fad", func := "loop.example/pub-softwarefloats/laws.FnOrderSub", spec := "fnOrderSub", apart := false }
def FnOrderSubSaid : Prop := fnOrderSubRow.holds Try.pinned (OpenSpec.ofChange fnOrderSubSpec)

/-- ITS FALSE NEIGHBOUR: 'it returns false'. Refute it at one input. -/
def fnOrderSubWrong : ChangeSpec := { name := "fnOrderSub", fn := fun _ => fun
  | [d1, d2] => { results := [.lit (.bool false)], args := [d1, d2] }
  | _ => none }
def FnOrderSubWrongFalsely : Prop := fnOrderSubRow.holds Try.pinned (OpenSpec.ofChange fnOrderSubWrong)

/-- 'laws.FnNear': WHATEVER THE INPUT: true; the input reads as it did. -/
def fnNearSpec : ChangeSpec := { name := "fnNear", fn := fun _ => fun
  | [d1, d2] => { results := [.lit (.bool true)], args := [d1, d2] }
  | _ => none }
def fnNearRow : OpenClaim := { program := "ytdadcbjhjmdheaa", sum := "2a4bfec07606a81f95ae408c20b72d24eb9bfe262265357140749ad0a68c1fad", func := "loop.example/pub-softwarefloats/laws.FnNear", spec := "fnNear", apart := false }
def FnNearSaid : Prop := fnNearRow.holds Try.pinned (OpenSpec.ofChange fnNearSpec)

/-- ITS FALSE NEIGHBOUR: 'it returns false'. Refute it at one input. -/
def fnNearWrong : ChangeSpec := { name := "fnNear", fn := fun _ => fun
  | [d1, d2] => { results := [.lit (.bool false)], args := [d1, d2] }
  | _ => none }
def FnNearWrongFalsely : Prop := fnNearRow.holds Try.pinned (OpenSpec.ofChange fnNearWrong)

/-- 'laws.FnSumError': WHATEVER THE INPUT: true; the input reads as it did. -/
def fnSumErrorSpec : ChangeSpec := { name := "fnSumError", fn := fun _ => fun
  | [d1, d2] => { results := [.lit (.bool true)], args := [d1, d2] }
  | _ => none }
def fnSumErrorRow : OpenClaim := { program := "ytdadcbjhjmdheaa", sum := "2a4bfec07606a81f95ae408c20b72d24eb9bfe262265357140749ad0a68c1fad", func := "loop.example/pub-softwarefloats/laws.FnSumError", spec := "fnSumError", apart := false }
def FnSumErrorSaid : Prop := fnSumErrorRow.holds Try.pinned (OpenSpec.ofChange fnSumErrorSpec)

/-- ITS FALSE NEIGHBOUR: 'it returns false'. Refute it at one input. -/
def fnSumErrorWrong : ChangeSpec := { name := "fnSumError", fn := fun _ => fun
  | [d1, d2] => { results := [.lit (.bool false)], args := [d1, d2] }
  | _ => none }
def FnSumErrorWrongFalsely : Prop := fnSumErrorRow.holds Try.pinned (OpenSpec.ofChange fnSumErrorWrong)

/-- 'laws.FnNarrowOrder': WHATEVER THE INPUT: true; the input reads as it did. -/
def fnNarrowOrderSpec : ChangeSpec := { name := "fnNarrowOrder", fn := fun _ => fun
  | [d1, d2] => { results := [.lit (.bool true)], args := [d1, d2] }
  | _ => none }
def fnNarrowOrderRow : OpenClaim := { program := "ytdadcbjhjmdheaa", sum := "2a4bfec07606a81f95ae408c20b72d24eb9bfe262265357140749ad0a68c1fad", func := "loop.example/pub-softwarefloats/laws.FnNarrowOrder", spec := "fnNarrowOrder", apart := false }
def FnNarrowOrderSaid : Prop := fnNarrowOrderRow.holds Try.pinned (OpenSpec.ofChange fnNarrowOrderSpec)

/-- ITS FALSE NEIGHBOUR: 'it returns false'. Refute it at one input. -/
def fnNarrowOrderWrong : ChangeSpec := { name := "fnNarrowOrder", fn := fun _ => fun
  | [d1, d2] => { results := [.lit (.bool false)], args := [d1, d2] }
  | _ => none }
def FnNarrowOrderWrongFalsely : Prop := fnNarrowOrderRow.holds Try.pinned (OpenSpec.ofChange fnNarrowOrderWrong)

/-- 'laws.FnWidenNarrow': WHATEVER THE INPUT: true; the input reads as it did. -/
def fnWidenNarrowSpec : ChangeSpec := { name := "fnWidenNarrow", fn := fun _ => fun
  | [d] => { results := [.lit (.bool true)], args := [d] }
  | _ => none }
def fnWidenNarrowRow : OpenClaim := { program := "ytdadcbjhjmdheaa", sum := "2a4bfec07606a81f95ae408c20b72d24eb9bfe262265357140749ad0a68c1fad", func := "loop.example/pub-softwarefloats/laws.FnWidenNarrow", spec := "fnWidenNarrow", apart := false }
def FnWidenNarrowSaid : Prop := fnWidenNarrowRow.holds Try.pinned (OpenSpec.ofChange fnWidenNarrowSpec)

/-- ITS FALSE NEIGHBOUR: 'it returns false'. Refute it at one input. -/
def fnWidenNarrowWrong : ChangeSpec := { name := "fnWidenNarrow", fn := fun _ => fun
  | [d] => { results := [.lit (.bool false)], args := [d] }
  | _ => none }
def FnWidenNarrowWrongFalsely : Prop := fnWidenNarrowRow.holds Try.pinned (OpenSpec.ofChange fnWidenNarrowWrong)

/-- 'laws.FnOrderWiden': WHATEVER THE INPUT: true; the input reads as it did. -/
def fnOrderWidenSpec : ChangeSpec := { name := "fnOrderWiden", fn := fun _ => fun
  | [d1, d2] => { results := [.lit (.bool true)], args := [d1, d2] }
  | _ => none }
def fnOrderWidenRow : OpenClaim := { program := "ytdadcbjhjmdheaa", sum := "2a4bfec07606a81f95ae408c20b72d24eb9bfe262265357140749ad0a68c1fad", func := "loop.example/pub-softwarefloats/laws.FnOrderWiden", spec := "fnOrderWiden", apart := false }
def FnOrderWidenSaid : Prop := fnOrderWidenRow.holds Try.pinned (OpenSpec.ofChange fnOrderWidenSpec)

/-- ITS FALSE NEIGHBOUR: 'it returns false'. Refute it at one input. -/
def fnOrderWidenWrong : ChangeSpec := { name := "fnOrderWiden", fn := fun _ => fun
  | [d1, d2] => { results := [.lit (.bool false)], args := [d1, d2] }
  | _ => none }
def FnOrderWidenWrongFalsely : Prop := fnOrderWidenRow.holds Try.pinned (OpenSpec.ofChange fnOrderWidenWrong)

/- THE SECOND FORM. 'bulk': how many values and letters a reading holds, each counted each time it is reached (what is shared counts as often as it is met; a slice's spare places count too). A statement '..UptoSaid' is the law's where the arguments, and the package variables that the reading takes, are together of bulk at most 1048576: NARROWER than '..Said'. Prove '..Said' where nothing that the law and all that it calls make is longer than what came in: it says more and counts as full. Else prove '..UptoSaid'. A law counts once. -/
mutual
def uptoBulk {H : Type} : DataW H → Nat
  | .lit (.string bytes) => bytes.length + 1
  | .lit _ => 1
  | .nil => 1
  | .ptr d => uptoBulk d + 1
  | .slice elems spare => uptoBulkAll elems + uptoBulkAll spare + 1
  | .agg parts => uptoBulkAll parts + 1
  | .iface _ d => uptoBulk d + 1
  | .map entries => uptoBulkEntries entries + 1
  | .held _ => 1
def uptoBulkAll {H : Type} : List (DataW H) → Nat
  | [] => 0
  | d :: r => uptoBulk d + uptoBulkAll r
def uptoBulkEntries {H : Type} : List (Lit × DataW H) → Nat
  | [] => 0
  | x :: r => uptoBulkEntry x + uptoBulkEntries r
def uptoBulkEntry {H : Type} : Lit × DataW H → Nat
  | (.string bytes, d) => bytes.length + uptoBulk d + 1
  | (_, d) => uptoBulk d + 1
 end
def uptoSmall : (H : Type) → List (DataW H) → Bool := fun _ ds => decide (uptoBulkAll ds ≤ 1048576)
def OpenSpec.upto (s : _root_.Go.ChangeSpec) : _root_.Go.OpenSpec := { _root_.Go.OpenSpec.ofChange s with cond := some uptoSmall }

/-- 'laws.FnCommute32', WHERE WHAT IT READS IS OF BULK AT MOST 1048576: true; the input reads as it did. -/
def fnCommute32UptoRow : OpenClaim := { program := "ytdadcbjhjmdheaa", sum := "2a4bfec07606a81f95ae408c20b72d24eb9bfe262265357140749ad0a68c1fad", func := "loop.example/pub-softwarefloats/laws.FnCommute32", spec := "fnCommute32", apart := false, narrowed := true }
def FnCommute32UptoSaid : Prop := fnCommute32UptoRow.holds Try.pinned (OpenSpec.upto fnCommute32Spec)

/-- 'laws.FnDouble32', WHERE WHAT IT READS IS OF BULK AT MOST 1048576: true; the input reads as it did. -/
def fnDouble32UptoRow : OpenClaim := { program := "ytdadcbjhjmdheaa", sum := "2a4bfec07606a81f95ae408c20b72d24eb9bfe262265357140749ad0a68c1fad", func := "loop.example/pub-softwarefloats/laws.FnDouble32", spec := "fnDouble32", apart := false, narrowed := true }
def FnDouble32UptoSaid : Prop := fnDouble32UptoRow.holds Try.pinned (OpenSpec.upto fnDouble32Spec)

/-- 'laws.FnHalf32', WHERE WHAT IT READS IS OF BULK AT MOST 1048576: true; the input reads as it did. -/
def fnHalf32UptoRow : OpenClaim := { program := "ytdadcbjhjmdheaa", sum := "2a4bfec07606a81f95ae408c20b72d24eb9bfe262265357140749ad0a68c1fad", func := "loop.example/pub-softwarefloats/laws.FnHalf32", spec := "fnHalf32", apart := false, narrowed := true }
def FnHalf32UptoSaid : Prop := fnHalf32UptoRow.holds Try.pinned (OpenSpec.upto fnHalf32Spec)

/-- 'laws.FnExactOrder32', WHERE WHAT IT READS IS OF BULK AT MOST 1048576: true; the input reads as it did. -/
def fnExactOrder32UptoRow : OpenClaim := { program := "ytdadcbjhjmdheaa", sum := "2a4bfec07606a81f95ae408c20b72d24eb9bfe262265357140749ad0a68c1fad", func := "loop.example/pub-softwarefloats/laws.FnExactOrder32", spec := "fnExactOrder32", apart := false, narrowed := true }
def FnExactOrder32UptoSaid : Prop := fnExactOrder32UptoRow.holds Try.pinned (OpenSpec.upto fnExactOrder32Spec)

/-- 'laws.FnMonotone32', WHERE WHAT IT READS IS OF BULK AT MOST 1048576: true; the input reads as it did. -/
def fnMonotone32UptoRow : OpenClaim := { program := "ytdadcbjhjmdheaa", sum := "2a4bfec07606a81f95ae408c20b72d24eb9bfe262265357140749ad0a68c1fad", func := "loop.example/pub-softwarefloats/laws.FnMonotone32", spec := "fnMonotone32", apart := false, narrowed := true }
def FnMonotone32UptoSaid : Prop := fnMonotone32UptoRow.holds Try.pinned (OpenSpec.upto fnMonotone32Spec)

/-- 'laws.FnMonotone64', WHERE WHAT IT READS IS OF BULK AT MOST 1048576: true; the input reads as it did. -/
def fnMonotone64UptoRow : OpenClaim := { program := "ytdadcbjhjmdheaa", sum := "2a4bfec07606a81f95ae408c20b72d24eb9bfe262265357140749ad0a68c1fad", func := "loop.example/pub-softwarefloats/laws.FnMonotone64", spec := "fnMonotone64", apart := false, narrowed := true }
def FnMonotone64UptoSaid : Prop := fnMonotone64UptoRow.holds Try.pinned (OpenSpec.upto fnMonotone64Spec)

/-- 'laws.FnOrderSub', WHERE WHAT IT READS IS OF BULK AT MOST 1048576: true; the input reads as it did. -/
def fnOrderSubUptoRow : OpenClaim := { program := "ytdadcbjhjmdheaa", sum := "2a4bfec07606a81f95ae408c20b72d24eb9bfe262265357140749ad0a68c1fad", func := "loop.example/pub-softwarefloats/laws.FnOrderSub", spec := "fnOrderSub", apart := false, narrowed := true }
def FnOrderSubUptoSaid : Prop := fnOrderSubUptoRow.holds Try.pinned (OpenSpec.upto fnOrderSubSpec)

/-- 'laws.FnNear', WHERE WHAT IT READS IS OF BULK AT MOST 1048576: true; the input reads as it did. -/
def fnNearUptoRow : OpenClaim := { program := "ytdadcbjhjmdheaa", sum := "2a4bfec07606a81f95ae408c20b72d24eb9bfe262265357140749ad0a68c1fad", func := "loop.example/pub-softwarefloats/laws.FnNear", spec := "fnNear", apart := false, narrowed := true }
def FnNearUptoSaid : Prop := fnNearUptoRow.holds Try.pinned (OpenSpec.upto fnNearSpec)

/-- 'laws.FnSumError', WHERE WHAT IT READS IS OF BULK AT MOST 1048576: true; the input reads as it did. -/
def fnSumErrorUptoRow : OpenClaim := { program := "ytdadcbjhjmdheaa", sum := "2a4bfec07606a81f95ae408c20b72d24eb9bfe262265357140749ad0a68c1fad", func := "loop.example/pub-softwarefloats/laws.FnSumError", spec := "fnSumError", apart := false, narrowed := true }
def FnSumErrorUptoSaid : Prop := fnSumErrorUptoRow.holds Try.pinned (OpenSpec.upto fnSumErrorSpec)

/-- 'laws.FnNarrowOrder', WHERE WHAT IT READS IS OF BULK AT MOST 1048576: true; the input reads as it did. -/
def fnNarrowOrderUptoRow : OpenClaim := { program := "ytdadcbjhjmdheaa", sum := "2a4bfec07606a81f95ae408c20b72d24eb9bfe262265357140749ad0a68c1fad", func := "loop.example/pub-softwarefloats/laws.FnNarrowOrder", spec := "fnNarrowOrder", apart := false, narrowed := true }
def FnNarrowOrderUptoSaid : Prop := fnNarrowOrderUptoRow.holds Try.pinned (OpenSpec.upto fnNarrowOrderSpec)

/-- 'laws.FnWidenNarrow', WHERE WHAT IT READS IS OF BULK AT MOST 1048576: true; the input reads as it did. -/
def fnWidenNarrowUptoRow : OpenClaim := { program := "ytdadcbjhjmdheaa", sum := "2a4bfec07606a81f95ae408c20b72d24eb9bfe262265357140749ad0a68c1fad", func := "loop.example/pub-softwarefloats/laws.FnWidenNarrow", spec := "fnWidenNarrow", apart := false, narrowed := true }
def FnWidenNarrowUptoSaid : Prop := fnWidenNarrowUptoRow.holds Try.pinned (OpenSpec.upto fnWidenNarrowSpec)

/-- 'laws.FnOrderWiden', WHERE WHAT IT READS IS OF BULK AT MOST 1048576: true; the input reads as it did. -/
def fnOrderWidenUptoRow : OpenClaim := { program := "ytdadcbjhjmdheaa", sum := "2a4bfec07606a81f95ae408c20b72d24eb9bfe262265357140749ad0a68c1fad", func := "loop.example/pub-softwarefloats/laws.FnOrderWiden", spec := "fnOrderWiden", apart := false, narrowed := true }
def FnOrderWidenUptoSaid : Prop := fnOrderWidenUptoRow.holds Try.pinned (OpenSpec.upto fnOrderWidenSpec)

end Rows
end Go.Proofs.Ytdadcbjhjmdheaa
