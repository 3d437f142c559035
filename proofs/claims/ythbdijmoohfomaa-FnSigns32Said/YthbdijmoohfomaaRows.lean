/-
  No cell of these rows narrows 'for every input' (looked for: loops, veiled, ifaces, maps, wideKeys, modest, calm, conditions, laid).
  DERIVED. THE GIVEN ROWS OF THIS SEAT. 12 by the template 'for every input the law returns true; each argument reads behind the call as it read before'; 0 by the template 'total and deterministic' (their statements: YthbdijmoohfomaaTotals.lean).
  GIVEN WITH THE SEED: the statements are not yours to turn. If you find one false, say at which input.
  Laid BY PROGRAM, IN A SANDBOX (cutbox-rows.mjs): the forced cells as the released guide's own fill.sh prints them over the translation 6d8a145e236b1950… (all of the seat's roots in one cut). By AI agents, Wed Nov 11 2026. No macro, syntax, notation, axiom, sorry.
-/
import Derived.Test.YthbdijmoohfomaaChecked
import GoSem.Claim
import GoSem.ClaimJoined
import GoSem.ClaimMapViews
import Derived.JoinedTies
import Derived.KernelRfl
namespace Go.Proofs.Ythbdijmoohfomaa
/- THE CELL 'sum', in the pinned program and in every row, IS THE sha256 OF THE DUMP (.gsa) THAT YthbdijmoohfomaaProg.lean LOADS. Nothing in Lean hashes anything: it is a label: what it is worth is what the hold of that sum in a sandbox is worth. -/
noncomputable def Try.pinned : Pinned := { name := "ythbdijmoohfomaa", sum := "6d8a145e236b1950f112f1d0f365af37354fb3c97e9576cb50e03c6f71f946a2", checked := Try.checked }
namespace Rows
def none {H : Type} : Left H := { results := [], args := [] }

/-- 'laws.FnExactNeg64': WHATEVER THE INPUT: true; the input reads as it did. -/
def fnExactNeg64Spec : ChangeSpec := { name := "fnExactNeg64", fn := fun _ => fun
  | [d] => { results := [.lit (.bool true)], args := [d] }
  | _ => none }
def fnExactNeg64Row : OpenClaim := { program := "ythbdijmoohfomaa", sum := "6d8a145e236b1950f112f1d0f365af37354fb3c97e9576cb50e03c6f71f946a2", func := "loop.example/pub-softwarefloats/laws.FnExactNeg64", spec := "fnExactNeg64", apart := false }
def FnExactNeg64Said : Prop := fnExactNeg64Row.holds Try.pinned (OpenSpec.ofChange fnExactNeg64Spec)

/-- ITS FALSE NEIGHBOUR: 'it returns false'. Refute it at one input. -/
def fnExactNeg64Wrong : ChangeSpec := { name := "fnExactNeg64", fn := fun _ => fun
  | [d] => { results := [.lit (.bool false)], args := [d] }
  | _ => none }
def FnExactNeg64WrongFalsely : Prop := fnExactNeg64Row.holds Try.pinned (OpenSpec.ofChange fnExactNeg64Wrong)

/-- 'laws.FnNegTwice': WHATEVER THE INPUT: true; the input reads as it did. -/
def fnNegTwiceSpec : ChangeSpec := { name := "fnNegTwice", fn := fun _ => fun
  | [d] => { results := [.lit (.bool true)], args := [d] }
  | _ => none }
def fnNegTwiceRow : OpenClaim := { program := "ythbdijmoohfomaa", sum := "6d8a145e236b1950f112f1d0f365af37354fb3c97e9576cb50e03c6f71f946a2", func := "loop.example/pub-softwarefloats/laws.FnNegTwice", spec := "fnNegTwice", apart := false }
def FnNegTwiceSaid : Prop := fnNegTwiceRow.holds Try.pinned (OpenSpec.ofChange fnNegTwiceSpec)

/-- ITS FALSE NEIGHBOUR: 'it returns false'. Refute it at one input. -/
def fnNegTwiceWrong : ChangeSpec := { name := "fnNegTwice", fn := fun _ => fun
  | [d] => { results := [.lit (.bool false)], args := [d] }
  | _ => none }
def FnNegTwiceWrongFalsely : Prop := fnNegTwiceRow.holds Try.pinned (OpenSpec.ofChange fnNegTwiceWrong)

/-- 'laws.FnExactMullu': WHATEVER THE INPUT: true; the input reads as it did. -/
def fnExactMulluSpec : ChangeSpec := { name := "fnExactMullu", fn := fun _ => fun
  | [d1, d2] => { results := [.lit (.bool true)], args := [d1, d2] }
  | _ => none }
def fnExactMulluRow : OpenClaim := { program := "ythbdijmoohfomaa", sum := "6d8a145e236b1950f112f1d0f365af37354fb3c97e9576cb50e03c6f71f946a2", func := "loop.example/pub-softwarefloats/laws.FnExactMullu", spec := "fnExactMullu", apart := false }
def FnExactMulluSaid : Prop := fnExactMulluRow.holds Try.pinned (OpenSpec.ofChange fnExactMulluSpec)

/-- ITS FALSE NEIGHBOUR: 'it returns false'. Refute it at one input. -/
def fnExactMulluWrong : ChangeSpec := { name := "fnExactMullu", fn := fun _ => fun
  | [d1, d2] => { results := [.lit (.bool false)], args := [d1, d2] }
  | _ => none }
def FnExactMulluWrongFalsely : Prop := fnExactMulluRow.holds Try.pinned (OpenSpec.ofChange fnExactMulluWrong)

/-- 'laws.FnMulluOrder': WHATEVER THE INPUT: true; the input reads as it did. -/
def fnMulluOrderSpec : ChangeSpec := { name := "fnMulluOrder", fn := fun _ => fun
  | [d1, d2] => { results := [.lit (.bool true)], args := [d1, d2] }
  | _ => none }
def fnMulluOrderRow : OpenClaim := { program := "ythbdijmoohfomaa", sum := "6d8a145e236b1950f112f1d0f365af37354fb3c97e9576cb50e03c6f71f946a2", func := "loop.example/pub-softwarefloats/laws.FnMulluOrder", spec := "fnMulluOrder", apart := false }
def FnMulluOrderSaid : Prop := fnMulluOrderRow.holds Try.pinned (OpenSpec.ofChange fnMulluOrderSpec)

/-- ITS FALSE NEIGHBOUR: 'it returns false'. Refute it at one input. -/
def fnMulluOrderWrong : ChangeSpec := { name := "fnMulluOrder", fn := fun _ => fun
  | [d1, d2] => { results := [.lit (.bool false)], args := [d1, d2] }
  | _ => none }
def FnMulluOrderWrongFalsely : Prop := fnMulluOrderRow.holds Try.pinned (OpenSpec.ofChange fnMulluOrderWrong)

/-- 'laws.FnExactUnpack32': WHATEVER THE INPUT: true; the input reads as it did. -/
def fnExactUnpack32Spec : ChangeSpec := { name := "fnExactUnpack32", fn := fun _ => fun
  | [d] => { results := [.lit (.bool true)], args := [d] }
  | _ => none }
def fnExactUnpack32Row : OpenClaim := { program := "ythbdijmoohfomaa", sum := "6d8a145e236b1950f112f1d0f365af37354fb3c97e9576cb50e03c6f71f946a2", func := "loop.example/pub-softwarefloats/laws.FnExactUnpack32", spec := "fnExactUnpack32", apart := false }
def FnExactUnpack32Said : Prop := fnExactUnpack32Row.holds Try.pinned (OpenSpec.ofChange fnExactUnpack32Spec)

/-- ITS FALSE NEIGHBOUR: 'it returns false'. Refute it at one input. -/
def fnExactUnpack32Wrong : ChangeSpec := { name := "fnExactUnpack32", fn := fun _ => fun
  | [d] => { results := [.lit (.bool false)], args := [d] }
  | _ => none }
def FnExactUnpack32WrongFalsely : Prop := fnExactUnpack32Row.holds Try.pinned (OpenSpec.ofChange fnExactUnpack32Wrong)

/-- 'laws.FnExactUnpack64': WHATEVER THE INPUT: true; the input reads as it did. -/
def fnExactUnpack64Spec : ChangeSpec := { name := "fnExactUnpack64", fn := fun _ => fun
  | [d] => { results := [.lit (.bool true)], args := [d] }
  | _ => none }
def fnExactUnpack64Row : OpenClaim := { program := "ythbdijmoohfomaa", sum := "6d8a145e236b1950f112f1d0f365af37354fb3c97e9576cb50e03c6f71f946a2", func := "loop.example/pub-softwarefloats/laws.FnExactUnpack64", spec := "fnExactUnpack64", apart := false }
def FnExactUnpack64Said : Prop := fnExactUnpack64Row.holds Try.pinned (OpenSpec.ofChange fnExactUnpack64Spec)

/-- ITS FALSE NEIGHBOUR: 'it returns false'. Refute it at one input. -/
def fnExactUnpack64Wrong : ChangeSpec := { name := "fnExactUnpack64", fn := fun _ => fun
  | [d] => { results := [.lit (.bool false)], args := [d] }
  | _ => none }
def FnExactUnpack64WrongFalsely : Prop := fnExactUnpack64Row.holds Try.pinned (OpenSpec.ofChange fnExactUnpack64Wrong)

/-- 'laws.FnDivluSmall': WHATEVER THE INPUT: true; the input reads as it did. -/
def fnDivluSmallSpec : ChangeSpec := { name := "fnDivluSmall", fn := fun _ => fun
  | [d1, d2] => { results := [.lit (.bool true)], args := [d1, d2] }
  | _ => none }
def fnDivluSmallRow : OpenClaim := { program := "ythbdijmoohfomaa", sum := "6d8a145e236b1950f112f1d0f365af37354fb3c97e9576cb50e03c6f71f946a2", func := "loop.example/pub-softwarefloats/laws.FnDivluSmall", spec := "fnDivluSmall", apart := false }
def FnDivluSmallSaid : Prop := fnDivluSmallRow.holds Try.pinned (OpenSpec.ofChange fnDivluSmallSpec)

/-- ITS FALSE NEIGHBOUR: 'it returns false'. Refute it at one input. -/
def fnDivluSmallWrong : ChangeSpec := { name := "fnDivluSmall", fn := fun _ => fun
  | [d1, d2] => { results := [.lit (.bool false)], args := [d1, d2] }
  | _ => none }
def FnDivluSmallWrongFalsely : Prop := fnDivluSmallRow.holds Try.pinned (OpenSpec.ofChange fnDivluSmallWrong)

/-- 'laws.FnExactDivlu': WHATEVER THE INPUT: true; the input reads as it did. -/
def fnExactDivluSpec : ChangeSpec := { name := "fnExactDivlu", fn := fun _ => fun
  | [d1, d2, d3] => { results := [.lit (.bool true)], args := [d1, d2, d3] }
  | _ => none }
def fnExactDivluRow : OpenClaim := { program := "ythbdijmoohfomaa", sum := "6d8a145e236b1950f112f1d0f365af37354fb3c97e9576cb50e03c6f71f946a2", func := "loop.example/pub-softwarefloats/laws.FnExactDivlu", spec := "fnExactDivlu", apart := false }
def FnExactDivluSaid : Prop := fnExactDivluRow.holds Try.pinned (OpenSpec.ofChange fnExactDivluSpec)

/-- ITS FALSE NEIGHBOUR: 'it returns false'. Refute it at one input. -/
def fnExactDivluWrong : ChangeSpec := { name := "fnExactDivlu", fn := fun _ => fun
  | [d1, d2, d3] => { results := [.lit (.bool false)], args := [d1, d2, d3] }
  | _ => none }
def FnExactDivluWrongFalsely : Prop := fnExactDivluRow.holds Try.pinned (OpenSpec.ofChange fnExactDivluWrong)

/-- 'laws.FnSigns32': WHATEVER THE INPUT: true; the input reads as it did. -/
def fnSigns32Spec : ChangeSpec := { name := "fnSigns32", fn := fun _ => fun
  | [d1, d2] => { results := [.lit (.bool true)], args := [d1, d2] }
  | _ => none }
def fnSigns32Row : OpenClaim := { program := "ythbdijmoohfomaa", sum := "6d8a145e236b1950f112f1d0f365af37354fb3c97e9576cb50e03c6f71f946a2", func := "loop.example/pub-softwarefloats/laws.FnSigns32", spec := "fnSigns32", apart := false }
def FnSigns32Said : Prop := fnSigns32Row.holds Try.pinned (OpenSpec.ofChange fnSigns32Spec)

/-- ITS FALSE NEIGHBOUR: 'it returns false'. Refute it at one input. -/
def fnSigns32Wrong : ChangeSpec := { name := "fnSigns32", fn := fun _ => fun
  | [d1, d2] => { results := [.lit (.bool false)], args := [d1, d2] }
  | _ => none }
def FnSigns32WrongFalsely : Prop := fnSigns32Row.holds Try.pinned (OpenSpec.ofChange fnSigns32Wrong)

/-- 'laws.FnExactPack32': WHATEVER THE INPUT: true; the input reads as it did. -/
def fnExactPack32Spec : ChangeSpec := { name := "fnExactPack32", fn := fun _ => fun
  | [d1, d2, d3, d4] => { results := [.lit (.bool true)], args := [d1, d2, d3, d4] }
  | _ => none }
def fnExactPack32Row : OpenClaim := { program := "ythbdijmoohfomaa", sum := "6d8a145e236b1950f112f1d0f365af37354fb3c97e9576cb50e03c6f71f946a2", func := "loop.example/pub-softwarefloats/laws.FnExactPack32", spec := "fnExactPack32", apart := false }
def FnExactPack32Said : Prop := fnExactPack32Row.holds Try.pinned (OpenSpec.ofChange fnExactPack32Spec)

/-- ITS FALSE NEIGHBOUR: 'it returns false'. Refute it at one input. -/
def fnExactPack32Wrong : ChangeSpec := { name := "fnExactPack32", fn := fun _ => fun
  | [d1, d2, d3, d4] => { results := [.lit (.bool false)], args := [d1, d2, d3, d4] }
  | _ => none }
def FnExactPack32WrongFalsely : Prop := fnExactPack32Row.holds Try.pinned (OpenSpec.ofChange fnExactPack32Wrong)

/-- 'laws.FnExactPack64': WHATEVER THE INPUT: true; the input reads as it did. -/
def fnExactPack64Spec : ChangeSpec := { name := "fnExactPack64", fn := fun _ => fun
  | [d1, d2, d3, d4] => { results := [.lit (.bool true)], args := [d1, d2, d3, d4] }
  | _ => none }
def fnExactPack64Row : OpenClaim := { program := "ythbdijmoohfomaa", sum := "6d8a145e236b1950f112f1d0f365af37354fb3c97e9576cb50e03c6f71f946a2", func := "loop.example/pub-softwarefloats/laws.FnExactPack64", spec := "fnExactPack64", apart := false }
def FnExactPack64Said : Prop := fnExactPack64Row.holds Try.pinned (OpenSpec.ofChange fnExactPack64Spec)

/-- ITS FALSE NEIGHBOUR: 'it returns false'. Refute it at one input. -/
def fnExactPack64Wrong : ChangeSpec := { name := "fnExactPack64", fn := fun _ => fun
  | [d1, d2, d3, d4] => { results := [.lit (.bool false)], args := [d1, d2, d3, d4] }
  | _ => none }
def FnExactPack64WrongFalsely : Prop := fnExactPack64Row.holds Try.pinned (OpenSpec.ofChange fnExactPack64Wrong)

/-- 'laws.FnExactCmp64': WHATEVER THE INPUT: true; the input reads as it did. -/
def fnExactCmp64Spec : ChangeSpec := { name := "fnExactCmp64", fn := fun _ => fun
  | [d1, d2] => { results := [.lit (.bool true)], args := [d1, d2] }
  | _ => none }
def fnExactCmp64Row : OpenClaim := { program := "ythbdijmoohfomaa", sum := "6d8a145e236b1950f112f1d0f365af37354fb3c97e9576cb50e03c6f71f946a2", func := "loop.example/pub-softwarefloats/laws.FnExactCmp64", spec := "fnExactCmp64", apart := false }
def FnExactCmp64Said : Prop := fnExactCmp64Row.holds Try.pinned (OpenSpec.ofChange fnExactCmp64Spec)

/-- ITS FALSE NEIGHBOUR: 'it returns false'. Refute it at one input. -/
def fnExactCmp64Wrong : ChangeSpec := { name := "fnExactCmp64", fn := fun _ => fun
  | [d1, d2] => { results := [.lit (.bool false)], args := [d1, d2] }
  | _ => none }
def FnExactCmp64WrongFalsely : Prop := fnExactCmp64Row.holds Try.pinned (OpenSpec.ofChange fnExactCmp64Wrong)

/- THE SECOND FORM. 'bulk': how many values and letters a reading holds, each counted each time it is reached (what is shared counts as often as it is met; a slice's spare places count too). A statement '..UptoSaid' is the law's where the arguments, and the package variables that the reading takes, are together of bulk at most 1048576: NARROWER than '..Said'. Prove '..Said' where nothing that the law and all that it calls make is longer than what came in: it says more and counts as full. Else prove '..UptoSaid'. A law counts once. -/
mutual
def uptoBulk {H : Type} : DataW H → Nat
  | .lit (.string bytes) => bytes.length + 1
  | .lit _ => 1
  | .nil => 1
  | .ptr d => uptoBulk d + 1
  | .slice elems spare => uptoBulkAll elems + uptoBulkAll spare + 1
  | .agg parts => uptoBulkAll parts + 1
  | .iface _ d => uptoBulk d + 1
  | .map entries => uptoBulkEntries entries + 1
  | .held _ => 1
def uptoBulkAll {H : Type} : List (DataW H) → Nat
  | [] => 0
  | d :: r => uptoBulk d + uptoBulkAll r
def uptoBulkEntries {H : Type} : List (Lit × DataW H) → Nat
  | [] => 0
  | x :: r => uptoBulkEntry x + uptoBulkEntries r
def uptoBulkEntry {H : Type} : Lit × DataW H → Nat
  | (.string bytes, d) => bytes.length + uptoBulk d + 1
  | (_, d) => uptoBulk d + 1
 end
def uptoSmall : (H : Type) → List (DataW H) → Bool := fun _ ds => decide (uptoBulkAll ds ≤ 1048576)
def OpenSpec.upto (s : _root_.Go.ChangeSpec) : _root_.Go.OpenSpec := { _root_.Go.OpenSpec.ofChange s with cond := some uptoSmall }

/-- 'laws.FnExactNeg64', WHERE WHAT IT READS IS OF BULK AT MOST 1048576: true; the input reads as it did. -/
def fnExactNeg64UptoRow : OpenClaim := { program := "ythbdijmoohfomaa", sum := "6d8a145e236b1950f112f1d0f365af37354fb3c97e9576cb50e03c6f71f946a2", func := "loop.example/pub-softwarefloats/laws.FnExactNeg64", spec := "fnExactNeg64", apart := false, narrowed := true }
def FnExactNeg64UptoSaid : Prop := fnExactNeg64UptoRow.holds Try.pinned (OpenSpec.upto fnExactNeg64Spec)

/-- 'laws.FnNegTwice', WHERE WHAT IT READS IS OF BULK AT MOST 1048576: true; the input reads as it did. -/
def fnNegTwiceUptoRow : OpenClaim := { program := "ythbdijmoohfomaa", sum := "6d8a145e236b1950f112f1d0f365af37354fb3c97e9576cb50e03c6f71f946a2", func := "loop.example/pub-softwarefloats/laws.FnNegTwice", spec := "fnNegTwice", apart := false, narrowed := true }
def FnNegTwiceUptoSaid : Prop := fnNegTwiceUptoRow.holds Try.pinned (OpenSpec.upto fnNegTwiceSpec)

/-- 'laws.FnExactMullu', WHERE WHAT IT READS IS OF BULK AT MOST 1048576: true; the input reads as it did. -/
def fnExactMulluUptoRow : OpenClaim := { program := "ythbdijmoohfomaa", sum := "6d8a145e236b1950f112f1d0f365af37354fb3c97e9576cb50e03c6f71f946a2", func := "loop.example/pub-softwarefloats/laws.FnExactMullu", spec := "fnExactMullu", apart := false, narrowed := true }
def FnExactMulluUptoSaid : Prop := fnExactMulluUptoRow.holds Try.pinned (OpenSpec.upto fnExactMulluSpec)

/-- 'laws.FnMulluOrder', WHERE WHAT IT READS IS OF BULK AT MOST 1048576: true; the input reads as it did. -/
def fnMulluOrderUptoRow : OpenClaim := { program := "ythbdijmoohfomaa", sum := "6d8a145e236b1950f112f1d0f365af37354fb3c97e9576cb50e03c6f71f946a2", func := "loop.example/pub-softwarefloats/laws.FnMulluOrder", spec := "fnMulluOrder", apart := false, narrowed := true }
def FnMulluOrderUptoSaid : Prop := fnMulluOrderUptoRow.holds Try.pinned (OpenSpec.upto fnMulluOrderSpec)

/-- 'laws.FnExactUnpack32', WHERE WHAT IT READS IS OF BULK AT MOST 1048576: true; the input reads as it did. -/
def fnExactUnpack32UptoRow : OpenClaim := { program := "ythbdijmoohfomaa", sum := "6d8a145e236b1950f112f1d0f365af37354fb3c97e9576cb50e03c6f71f946a2", func := "loop.example/pub-softwarefloats/laws.FnExactUnpack32", spec := "fnExactUnpack32", apart := false, narrowed := true }
def FnExactUnpack32UptoSaid : Prop := fnExactUnpack32UptoRow.holds Try.pinned (OpenSpec.upto fnExactUnpack32Spec)

/-- 'laws.FnExactUnpack64', WHERE WHAT IT READS IS OF BULK AT MOST 1048576: true; the input reads as it did. -/
def fnExactUnpack64UptoRow : OpenClaim := { program := "ythbdijmoohfomaa", sum := "6d8a145e236b1950f112f1d0f365af37354fb3c97e9576cb50e03c6f71f946a2", func := "loop.example/pub-softwarefloats/laws.FnExactUnpack64", spec := "fnExactUnpack64", apart := false, narrowed := true }
def FnExactUnpack64UptoSaid : Prop := fnExactUnpack64UptoRow.holds Try.pinned (OpenSpec.upto fnExactUnpack64Spec)

/-- 'laws.FnDivluSmall', WHERE WHAT IT READS IS OF BULK AT MOST 1048576: true; the input reads as it did. -/
def fnDivluSmallUptoRow : OpenClaim := { program := "ythbdijmoohfomaa", sum := "6d8a145e236b1950f112f1d0f365af37354fb3c97e9576cb50e03c6f71f946a2", func := "loop.example/pub-softwarefloats/laws.FnDivluSmall", spec := "fnDivluSmall", apart := false, narrowed := true }
def FnDivluSmallUptoSaid : Prop := fnDivluSmallUptoRow.holds Try.pinned (OpenSpec.upto fnDivluSmallSpec)

/-- 'laws.FnExactDivlu', WHERE WHAT IT READS IS OF BULK AT MOST 1048576: true; the input reads as it did. -/
def fnExactDivluUptoRow : OpenClaim := { program := "ythbdijmoohfomaa", sum := "6d8a145e236b1950f112f1d0f365af37354fb3c97e9576cb50e03c6f71f946a2", func := "loop.example/pub-softwarefloats/laws.FnExactDivlu", spec := "fnExactDivlu", apart := false, narrowed := true }
def FnExactDivluUptoSaid : Prop := fnExactDivluUptoRow.holds Try.pinned (OpenSpec.upto fnExactDivluSpec)

/-- 'laws.FnSigns32', WHERE WHAT IT READS IS OF BULK AT MOST 1048576: true; the input reads as it did. -/
def fnSigns32UptoRow : OpenClaim := { program := "ythbdijmoohfomaa", sum := "6d8a145e236b1950f112f1d0f365af37354fb3c97e9576cb50e03c6f71f946a2", func := "loop.example/pub-softwarefloats/laws.FnSigns32", spec := "fnSigns32", apart := false, narrowed := true }
def FnSigns32UptoSaid : Prop := fnSigns32UptoRow.holds Try.pinned (OpenSpec.upto fnSigns32Spec)

/-- 'laws.FnExactPack32', WHERE WHAT IT READS IS OF BULK AT MOST 1048576: true; the input reads as it did. -/
def fnExactPack32UptoRow : OpenClaim := { program := "ythbdijmoohfomaa", sum := "6d8a145e236b1950f112f1d0f365af37354fb3c97e9576cb50e03c6f71f946a2", func := "loop.example/pub-softwarefloats/laws.FnExactPack32", spec := "fnExactPack32", apart := false, narrowed := true }
def FnExactPack32UptoSaid : Prop := fnExactPack32UptoRow.holds Try.pinned (OpenSpec.upto fnExactPack32Spec)

/-- 'laws.FnExactPack64', WHERE WHAT IT READS IS OF BULK AT MOST 1048576: true; the input reads as it did. -/
def fnExactPack64UptoRow : OpenClaim := { program := "ythbdijmoohfomaa", sum := "6d8a145e236b1950f112f1d0f365af37354fb3c97e9576cb50e03c6f71f946a2", func := "loop.example/pub-softwarefloats/laws.FnExactPack64", spec := "fnExactPack64", apart := false, narrowed := true }
def FnExactPack64UptoSaid : Prop := fnExactPack64UptoRow.holds Try.pinned (OpenSpec.upto fnExactPack64Spec)

/-- 'laws.FnExactCmp64', WHERE WHAT IT READS IS OF BULK AT MOST 1048576: true; the input reads as it did. -/
def fnExactCmp64UptoRow : OpenClaim := { program := "ythbdijmoohfomaa", sum := "6d8a145e236b1950f112f1d0f365af37354fb3c97e9576cb50e03c6f71f946a2", func := "loop.example/pub-softwarefloats/laws.FnExactCmp64", spec := "fnExactCmp64", apart := false, narrowed := true }
def FnExactCmp64UptoSaid : Prop := fnExactCmp64UptoRow.holds Try.pinned (OpenSpec.upto fnExactCmp64Spec)

end Rows
end Go.Proofs.Ythbdijmoohfomaa
