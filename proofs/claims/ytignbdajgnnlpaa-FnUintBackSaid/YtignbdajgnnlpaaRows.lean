/-
  No cell of these rows narrows 'for every input' (looked for: loops, veiled, ifaces, maps, wideKeys, modest, calm, conditions, laid).
  DERIVED. THE GIVEN ROWS OF THIS SEAT. 12 by the template 'for every input the law returns true; each argument reads behind the call as it read before'; 0 by the template 'total and deterministic' (their statements: YtignbdajgnnlpaaTotals.lean).
  GIVEN WITH THE SEED: the statements are not yours to turn. If you find one false, say at which input.
  Laid BY PROGRAM, IN A SANDBOX (cutbox-rows.mjs): the forced cells as the released guide's own fill.sh prints them over the translation a970c1430d6c23c2… (all of the seat's roots in one cut). By AI agents, Wed Nov 11 2026. No macro, syntax, notation, axiom, sorry.
-/
import Derived.Test.YtignbdajgnnlpaaChecked
import GoSem.Claim
import GoSem.ClaimJoined
import GoSem.ClaimMapViews
import Derived.JoinedTies
import Derived.KernelRfl
namespace Go.Proofs.Ytignbdajgnnlpaa
/- THE CELL 'sum', in the pinned program and in every row, IS THE sha256 OF THE DUMP (.gsa) THAT YtignbdajgnnlpaaProg.lean LOADS. Nothing in Lean hashes anything: it is a label: what it is worth is what the hold of that sum in a sandbox is worth. -/
noncomputable def Try.pinned : Pinned := { name := "ytignbdajgnnlpaa", sum := "a970c1430d6c23c2f70c869ce4d1e6264b1dd9693e0d6927837abe3ce9d1d77b", checked := Try.checked }
namespace Rows
def none {H : Type} : Left H := { results := [], args := [] }

/-- 'laws.FnExactToInt': WHATEVER THE INPUT: true; the input reads as it did. -/
def fnExactToIntSpec : ChangeSpec := { name := "fnExactToInt", fn := fun _ => fun
  | [d] => { results := [.lit (.bool true)], args := [d] }
  | _ => none }
def fnExactToIntRow : OpenClaim := { program := "ytignbdajgnnlpaa", sum := "a970c1430d6c23c2f70c869ce4d1e6264b1dd9693e0d6927837abe3ce9d1d77b", func := "loop.example/pub-softwarefloats/laws.FnExactToInt", spec := "fnExactToInt", apart := false }
def FnExactToIntSaid : Prop := fnExactToIntRow.holds Try.pinned (OpenSpec.ofChange fnExactToIntSpec)

/-- ITS FALSE NEIGHBOUR: 'it returns false'. Refute it at one input. -/
def fnExactToIntWrong : ChangeSpec := { name := "fnExactToInt", fn := fun _ => fun
  | [d] => { results := [.lit (.bool false)], args := [d] }
  | _ => none }
def FnExactToIntWrongFalsely : Prop := fnExactToIntRow.holds Try.pinned (OpenSpec.ofChange fnExactToIntWrong)

/-- 'laws.FnExactToInt32': WHATEVER THE INPUT: true; the input reads as it did. -/
def fnExactToInt32Spec : ChangeSpec := { name := "fnExactToInt32", fn := fun _ => fun
  | [d] => { results := [.lit (.bool true)], args := [d] }
  | _ => none }
def fnExactToInt32Row : OpenClaim := { program := "ytignbdajgnnlpaa", sum := "a970c1430d6c23c2f70c869ce4d1e6264b1dd9693e0d6927837abe3ce9d1d77b", func := "loop.example/pub-softwarefloats/laws.FnExactToInt32", spec := "fnExactToInt32", apart := false }
def FnExactToInt32Said : Prop := fnExactToInt32Row.holds Try.pinned (OpenSpec.ofChange fnExactToInt32Spec)

/-- ITS FALSE NEIGHBOUR: 'it returns false'. Refute it at one input. -/
def fnExactToInt32Wrong : ChangeSpec := { name := "fnExactToInt32", fn := fun _ => fun
  | [d] => { results := [.lit (.bool false)], args := [d] }
  | _ => none }
def FnExactToInt32WrongFalsely : Prop := fnExactToInt32Row.holds Try.pinned (OpenSpec.ofChange fnExactToInt32Wrong)

/-- 'laws.FnExactToInt64': WHATEVER THE INPUT: true; the input reads as it did. -/
def fnExactToInt64Spec : ChangeSpec := { name := "fnExactToInt64", fn := fun _ => fun
  | [d] => { results := [.lit (.bool true)], args := [d] }
  | _ => none }
def fnExactToInt64Row : OpenClaim := { program := "ytignbdajgnnlpaa", sum := "a970c1430d6c23c2f70c869ce4d1e6264b1dd9693e0d6927837abe3ce9d1d77b", func := "loop.example/pub-softwarefloats/laws.FnExactToInt64", spec := "fnExactToInt64", apart := false }
def FnExactToInt64Said : Prop := fnExactToInt64Row.holds Try.pinned (OpenSpec.ofChange fnExactToInt64Spec)

/-- ITS FALSE NEIGHBOUR: 'it returns false'. Refute it at one input. -/
def fnExactToInt64Wrong : ChangeSpec := { name := "fnExactToInt64", fn := fun _ => fun
  | [d] => { results := [.lit (.bool false)], args := [d] }
  | _ => none }
def FnExactToInt64WrongFalsely : Prop := fnExactToInt64Row.holds Try.pinned (OpenSpec.ofChange fnExactToInt64Wrong)

/-- 'laws.FnExactToInt32From32': WHATEVER THE INPUT: true; the input reads as it did. -/
def fnExactToInt32From32Spec : ChangeSpec := { name := "fnExactToInt32From32", fn := fun _ => fun
  | [d] => { results := [.lit (.bool true)], args := [d] }
  | _ => none }
def fnExactToInt32From32Row : OpenClaim := { program := "ytignbdajgnnlpaa", sum := "a970c1430d6c23c2f70c869ce4d1e6264b1dd9693e0d6927837abe3ce9d1d77b", func := "loop.example/pub-softwarefloats/laws.FnExactToInt32From32", spec := "fnExactToInt32From32", apart := false }
def FnExactToInt32From32Said : Prop := fnExactToInt32From32Row.holds Try.pinned (OpenSpec.ofChange fnExactToInt32From32Spec)

/-- ITS FALSE NEIGHBOUR: 'it returns false'. Refute it at one input. -/
def fnExactToInt32From32Wrong : ChangeSpec := { name := "fnExactToInt32From32", fn := fun _ => fun
  | [d] => { results := [.lit (.bool false)], args := [d] }
  | _ => none }
def FnExactToInt32From32WrongFalsely : Prop := fnExactToInt32From32Row.holds Try.pinned (OpenSpec.ofChange fnExactToInt32From32Wrong)

/-- 'laws.FnExactToInt64From32': WHATEVER THE INPUT: true; the input reads as it did. -/
def fnExactToInt64From32Spec : ChangeSpec := { name := "fnExactToInt64From32", fn := fun _ => fun
  | [d] => { results := [.lit (.bool true)], args := [d] }
  | _ => none }
def fnExactToInt64From32Row : OpenClaim := { program := "ytignbdajgnnlpaa", sum := "a970c1430d6c23c2f70c869ce4d1e6264b1dd9693e0d6927837abe3ce9d1d77b", func := "loop.example/pub-softwarefloats/laws.FnExactToInt64From32", spec := "fnExactToInt64From32", apart := false }
def FnExactToInt64From32Said : Prop := fnExactToInt64From32Row.holds Try.pinned (OpenSpec.ofChange fnExactToInt64From32Spec)

/-- ITS FALSE NEIGHBOUR: 'it returns false'. Refute it at one input. -/
def fnExactToInt64From32Wrong : ChangeSpec := { name := "fnExactToInt64From32", fn := fun _ => fun
  | [d] => { results := [.lit (.bool false)], args := [d] }
  | _ => none }
def FnExactToInt64From32WrongFalsely : Prop := fnExactToInt64From32Row.holds Try.pinned (OpenSpec.ofChange fnExactToInt64From32Wrong)

/-- 'laws.FnExactToUint64': WHATEVER THE INPUT: true; the input reads as it did. -/
def fnExactToUint64Spec : ChangeSpec := { name := "fnExactToUint64", fn := fun _ => fun
  | [d] => { results := [.lit (.bool true)], args := [d] }
  | _ => none }
def fnExactToUint64Row : OpenClaim := { program := "ytignbdajgnnlpaa", sum := "a970c1430d6c23c2f70c869ce4d1e6264b1dd9693e0d6927837abe3ce9d1d77b", func := "loop.example/pub-softwarefloats/laws.FnExactToUint64", spec := "fnExactToUint64", apart := false }
def FnExactToUint64Said : Prop := fnExactToUint64Row.holds Try.pinned (OpenSpec.ofChange fnExactToUint64Spec)

/-- ITS FALSE NEIGHBOUR: 'it returns false'. Refute it at one input. -/
def fnExactToUint64Wrong : ChangeSpec := { name := "fnExactToUint64", fn := fun _ => fun
  | [d] => { results := [.lit (.bool false)], args := [d] }
  | _ => none }
def FnExactToUint64WrongFalsely : Prop := fnExactToUint64Row.holds Try.pinned (OpenSpec.ofChange fnExactToUint64Wrong)

/-- 'laws.FnExactToUint64From32': WHATEVER THE INPUT: true; the input reads as it did. -/
def fnExactToUint64From32Spec : ChangeSpec := { name := "fnExactToUint64From32", fn := fun _ => fun
  | [d] => { results := [.lit (.bool true)], args := [d] }
  | _ => none }
def fnExactToUint64From32Row : OpenClaim := { program := "ytignbdajgnnlpaa", sum := "a970c1430d6c23c2f70c869ce4d1e6264b1dd9693e0d6927837abe3ce9d1d77b", func := "loop.example/pub-softwarefloats/laws.FnExactToUint64From32", spec := "fnExactToUint64From32", apart := false }
def FnExactToUint64From32Said : Prop := fnExactToUint64From32Row.holds Try.pinned (OpenSpec.ofChange fnExactToUint64From32Spec)

/-- ITS FALSE NEIGHBOUR: 'it returns false'. Refute it at one input. -/
def fnExactToUint64From32Wrong : ChangeSpec := { name := "fnExactToUint64From32", fn := fun _ => fun
  | [d] => { results := [.lit (.bool false)], args := [d] }
  | _ => none }
def FnExactToUint64From32WrongFalsely : Prop := fnExactToUint64From32Row.holds Try.pinned (OpenSpec.ofChange fnExactToUint64From32Wrong)

/-- 'laws.FnExactFromIntTo32': WHATEVER THE INPUT: true; the input reads as it did. -/
def fnExactFromIntTo32Spec : ChangeSpec := { name := "fnExactFromIntTo32", fn := fun _ => fun
  | [d] => { results := [.lit (.bool true)], args := [d] }
  | _ => none }
def fnExactFromIntTo32Row : OpenClaim := { program := "ytignbdajgnnlpaa", sum := "a970c1430d6c23c2f70c869ce4d1e6264b1dd9693e0d6927837abe3ce9d1d77b", func := "loop.example/pub-softwarefloats/laws.FnExactFromIntTo32", spec := "fnExactFromIntTo32", apart := false }
def FnExactFromIntTo32Said : Prop := fnExactFromIntTo32Row.holds Try.pinned (OpenSpec.ofChange fnExactFromIntTo32Spec)

/-- ITS FALSE NEIGHBOUR: 'it returns false'. Refute it at one input. -/
def fnExactFromIntTo32Wrong : ChangeSpec := { name := "fnExactFromIntTo32", fn := fun _ => fun
  | [d] => { results := [.lit (.bool false)], args := [d] }
  | _ => none }
def FnExactFromIntTo32WrongFalsely : Prop := fnExactFromIntTo32Row.holds Try.pinned (OpenSpec.ofChange fnExactFromIntTo32Wrong)

/-- 'laws.FnExactFromInt32': WHATEVER THE INPUT: true; the input reads as it did. -/
def fnExactFromInt32Spec : ChangeSpec := { name := "fnExactFromInt32", fn := fun _ => fun
  | [d] => { results := [.lit (.bool true)], args := [d] }
  | _ => none }
def fnExactFromInt32Row : OpenClaim := { program := "ytignbdajgnnlpaa", sum := "a970c1430d6c23c2f70c869ce4d1e6264b1dd9693e0d6927837abe3ce9d1d77b", func := "loop.example/pub-softwarefloats/laws.FnExactFromInt32", spec := "fnExactFromInt32", apart := false }
def FnExactFromInt32Said : Prop := fnExactFromInt32Row.holds Try.pinned (OpenSpec.ofChange fnExactFromInt32Spec)

/-- ITS FALSE NEIGHBOUR: 'it returns false'. Refute it at one input. -/
def fnExactFromInt32Wrong : ChangeSpec := { name := "fnExactFromInt32", fn := fun _ => fun
  | [d] => { results := [.lit (.bool false)], args := [d] }
  | _ => none }
def FnExactFromInt32WrongFalsely : Prop := fnExactFromInt32Row.holds Try.pinned (OpenSpec.ofChange fnExactFromInt32Wrong)

/-- 'laws.FnExactFromUint': WHATEVER THE INPUT: true; the input reads as it did. -/
def fnExactFromUintSpec : ChangeSpec := { name := "fnExactFromUint", fn := fun _ => fun
  | [d] => { results := [.lit (.bool true)], args := [d] }
  | _ => none }
def fnExactFromUintRow : OpenClaim := { program := "ytignbdajgnnlpaa", sum := "a970c1430d6c23c2f70c869ce4d1e6264b1dd9693e0d6927837abe3ce9d1d77b", func := "loop.example/pub-softwarefloats/laws.FnExactFromUint", spec := "fnExactFromUint", apart := false }
def FnExactFromUintSaid : Prop := fnExactFromUintRow.holds Try.pinned (OpenSpec.ofChange fnExactFromUintSpec)

/-- ITS FALSE NEIGHBOUR: 'it returns false'. Refute it at one input. -/
def fnExactFromUintWrong : ChangeSpec := { name := "fnExactFromUint", fn := fun _ => fun
  | [d] => { results := [.lit (.bool false)], args := [d] }
  | _ => none }
def FnExactFromUintWrongFalsely : Prop := fnExactFromUintRow.holds Try.pinned (OpenSpec.ofChange fnExactFromUintWrong)

/-- 'laws.FnExactFromUintTo32': WHATEVER THE INPUT: true; the input reads as it did. -/
def fnExactFromUintTo32Spec : ChangeSpec := { name := "fnExactFromUintTo32", fn := fun _ => fun
  | [d] => { results := [.lit (.bool true)], args := [d] }
  | _ => none }
def fnExactFromUintTo32Row : OpenClaim := { program := "ytignbdajgnnlpaa", sum := "a970c1430d6c23c2f70c869ce4d1e6264b1dd9693e0d6927837abe3ce9d1d77b", func := "loop.example/pub-softwarefloats/laws.FnExactFromUintTo32", spec := "fnExactFromUintTo32", apart := false }
def FnExactFromUintTo32Said : Prop := fnExactFromUintTo32Row.holds Try.pinned (OpenSpec.ofChange fnExactFromUintTo32Spec)

/-- ITS FALSE NEIGHBOUR: 'it returns false'. Refute it at one input. -/
def fnExactFromUintTo32Wrong : ChangeSpec := { name := "fnExactFromUintTo32", fn := fun _ => fun
  | [d] => { results := [.lit (.bool false)], args := [d] }
  | _ => none }
def FnExactFromUintTo32WrongFalsely : Prop := fnExactFromUintTo32Row.holds Try.pinned (OpenSpec.ofChange fnExactFromUintTo32Wrong)

/-- 'laws.FnUintBack': WHATEVER THE INPUT: true; the input reads as it did. -/
def fnUintBackSpec : ChangeSpec := { name := "fnUintBack", fn := fun _ => fun
  | [d1, d2] => { results := [.lit (.bool true)], args := [d1, d2] }
  | _ => none }
def fnUintBackRow : OpenClaim := { program := "ytignbdajgnnlpaa", sum := "a970c1430d6c23c2f70c869ce4d1e6264b1dd9693e0d6927837abe3ce9d1d77b", func := "loop.example/pub-softwarefloats/laws.FnUintBack", spec := "fnUintBack", apart := false }
def FnUintBackSaid : Prop := fnUintBackRow.holds Try.pinned (OpenSpec.ofChange fnUintBackSpec)

/-- ITS FALSE NEIGHBOUR: 'it returns false'. Refute it at one input. -/
def fnUintBackWrong : ChangeSpec := { name := "fnUintBack", fn := fun _ => fun
  | [d1, d2] => { results := [.lit (.bool false)], args := [d1, d2] }
  | _ => none }
def FnUintBackWrongFalsely : Prop := fnUintBackRow.holds Try.pinned (OpenSpec.ofChange fnUintBackWrong)

/- THE SECOND FORM. 'bulk': how many values and letters a reading holds, each counted each time it is reached (what is shared counts as often as it is met; a slice's spare places count too). A statement '..UptoSaid' is the law's where the arguments, and the package variables that the reading takes, are together of bulk at most 1048576: NARROWER than '..Said'. Prove '..Said' where nothing that the law and all that it calls make is longer than what came in: it says more and counts as full. Else prove '..UptoSaid'. A law counts once. -/
mutual
def uptoBulk {H : Type} : DataW H → Nat
  | .lit (.string bytes) => bytes.length + 1
  | .lit _ => 1
  | .nil => 1
  | .ptr d => uptoBulk d + 1
  | .slice elems spare => uptoBulkAll elems + uptoBulkAll spare + 1
  | .agg parts => uptoBulkAll parts + 1
  | .iface _ d => uptoBulk d + 1
  | .map entries => uptoBulkEntries entries + 1
  | .held _ => 1
def uptoBulkAll {H : Type} : List (DataW H) → Nat
  | [] => 0
  | d :: r => uptoBulk d + uptoBulkAll r
def uptoBulkEntries {H : Type} : List (Lit × DataW H) → Nat
  | [] => 0
  | x :: r => uptoBulkEntry x + uptoBulkEntries r
def uptoBulkEntry {H : Type} : Lit × DataW H → Nat
  | (.string bytes, d) => bytes.length + uptoBulk d + 1
  | (_, d) => uptoBulk d + 1
 end
def uptoSmall : (H : Type) → List (DataW H) → Bool := fun _ ds => decide (uptoBulkAll ds ≤ 1048576)
def OpenSpec.upto (s : _root_.Go.ChangeSpec) : _root_.Go.OpenSpec := { _root_.Go.OpenSpec.ofChange s with cond := some uptoSmall }

/-- 'laws.FnExactToInt', WHERE WHAT IT READS IS OF BULK AT MOST 1048576: true; the input reads as it did. -/
def fnExactToIntUptoRow : OpenClaim := { program := "ytignbdajgnnlpaa", sum := "a970c1430d6c23c2f70c869ce4d1e6264b1dd9693e0d6927837abe3ce9d1d77b", func := "loop.example/pub-softwarefloats/laws.FnExactToInt", spec := "fnExactToInt", apart := false, narrowed := true }
def FnExactToIntUptoSaid : Prop := fnExactToIntUptoRow.holds Try.pinned (OpenSpec.upto fnExactToIntSpec)

/-- 'laws.FnExactToInt32', WHERE WHAT IT READS IS OF BULK AT MOST 1048576: true; the input reads as it did. -/
def fnExactToInt32UptoRow : OpenClaim := { program := "ytignbdajgnnlpaa", sum := "a970c1430d6c23c2f70c869ce4d1e6264b1dd9693e0d6927837abe3ce9d1d77b", func := "loop.example/pub-softwarefloats/laws.FnExactToInt32", spec := "fnExactToInt32", apart := false, narrowed := true }
def FnExactToInt32UptoSaid : Prop := fnExactToInt32UptoRow.holds Try.pinned (OpenSpec.upto fnExactToInt32Spec)

/-- 'laws.FnExactToInt64', WHERE WHAT IT READS IS OF BULK AT MOST 1048576: true; the input reads as it did. -/
def fnExactToInt64UptoRow : OpenClaim := { program := "ytignbdajgnnlpaa", sum := "a970c1430d6c23c2f70c869ce4d1e6264b1dd9693e0d6927837abe3ce9d1d77b", func := "loop.example/pub-softwarefloats/laws.FnExactToInt64", spec := "fnExactToInt64", apart := false, narrowed := true }
def FnExactToInt64UptoSaid : Prop := fnExactToInt64UptoRow.holds Try.pinned (OpenSpec.upto fnExactToInt64Spec)

/-- 'laws.FnExactToInt32From32', WHERE WHAT IT READS IS OF BULK AT MOST 1048576: true; the input reads as it did. -/
def fnExactToInt32From32UptoRow : OpenClaim := { program := "ytignbdajgnnlpaa", sum := "a970c1430d6c23c2f70c869ce4d1e6264b1dd9693e0d6927837abe3ce9d1d77b", func := "loop.example/pub-softwarefloats/laws.FnExactToInt32From32", spec := "fnExactToInt32From32", apart := false, narrowed := true }
def FnExactToInt32From32UptoSaid : Prop := fnExactToInt32From32UptoRow.holds Try.pinned (OpenSpec.upto fnExactToInt32From32Spec)

/-- 'laws.FnExactToInt64From32', WHERE WHAT IT READS IS OF BULK AT MOST 1048576: true; the input reads as it did. -/
def fnExactToInt64From32UptoRow : OpenClaim := { program := "ytignbdajgnnlpaa", sum := "a970c1430d6c23c2f70c869ce4d1e6264b1dd9693e0d6927837abe3ce9d1d77b", func := "loop.example/pub-softwarefloats/laws.FnExactToInt64From32", spec := "fnExactToInt64From32", apart := false, narrowed := true }
def FnExactToInt64From32UptoSaid : Prop := fnExactToInt64From32UptoRow.holds Try.pinned (OpenSpec.upto fnExactToInt64From32Spec)

/-- 'laws.FnExactToUint64', WHERE WHAT IT READS IS OF BULK AT MOST 1048576: true; the input reads as it did. -/
def fnExactToUint64UptoRow : OpenClaim := { program := "ytignbdajgnnlpaa", sum := "a970c1430d6c23c2f70c869ce4d1e6264b1dd9693e0d6927837abe3ce9d1d77b", func := "loop.example/pub-softwarefloats/laws.FnExactToUint64", spec := "fnExactToUint64", apart := false, narrowed := true }
def FnExactToUint64UptoSaid : Prop := fnExactToUint64UptoRow.holds Try.pinned (OpenSpec.upto fnExactToUint64Spec)

/-- 'laws.FnExactToUint64From32', WHERE WHAT IT READS IS OF BULK AT MOST 1048576: true; the input reads as it did. -/
def fnExactToUint64From32UptoRow : OpenClaim := { program := "ytignbdajgnnlpaa", sum := "a970c1430d6c23c2f70c869ce4d1e6264b1dd9693e0d6927837abe3ce9d1d77b", func := "loop.example/pub-softwarefloats/laws.FnExactToUint64From32", spec := "fnExactToUint64From32", apart := false, narrowed := true }
def FnExactToUint64From32UptoSaid : Prop := fnExactToUint64From32UptoRow.holds Try.pinned (OpenSpec.upto fnExactToUint64From32Spec)

/-- 'laws.FnExactFromIntTo32', WHERE WHAT IT READS IS OF BULK AT MOST 1048576: true; the input reads as it did. -/
def fnExactFromIntTo32UptoRow : OpenClaim := { program := "ytignbdajgnnlpaa", sum := "a970c1430d6c23c2f70c869ce4d1e6264b1dd9693e0d6927837abe3ce9d1d77b", func := "loop.example/pub-softwarefloats/laws.FnExactFromIntTo32", spec := "fnExactFromIntTo32", apart := false, narrowed := true }
def FnExactFromIntTo32UptoSaid : Prop := fnExactFromIntTo32UptoRow.holds Try.pinned (OpenSpec.upto fnExactFromIntTo32Spec)

/-- 'laws.FnExactFromInt32', WHERE WHAT IT READS IS OF BULK AT MOST 1048576: true; the input reads as it did. -/
def fnExactFromInt32UptoRow : OpenClaim := { program := "ytignbdajgnnlpaa", sum := "a970c1430d6c23c2f70c869ce4d1e6264b1dd9693e0d6927837abe3ce9d1d77b", func := "loop.example/pub-softwarefloats/laws.FnExactFromInt32", spec := "fnExactFromInt32", apart := false, narrowed := true }
def FnExactFromInt32UptoSaid : Prop := fnExactFromInt32UptoRow.holds Try.pinned (OpenSpec.upto fnExactFromInt32Spec)

/-- 'laws.FnExactFromUint', WHERE WHAT IT READS IS OF BULK AT MOST 1048576: true; the input reads as it did. -/
def fnExactFromUintUptoRow : OpenClaim := { program := "ytignbdajgnnlpaa", sum := "a970c1430d6c23c2f70c869ce4d1e6264b1dd9693e0d6927837abe3ce9d1d77b", func := "loop.example/pub-softwarefloats/laws.FnExactFromUint", spec := "fnExactFromUint", apart := false, narrowed := true }
def FnExactFromUintUptoSaid : Prop := fnExactFromUintUptoRow.holds Try.pinned (OpenSpec.upto fnExactFromUintSpec)

/-- 'laws.FnExactFromUintTo32', WHERE WHAT IT READS IS OF BULK AT MOST 1048576: true; the input reads as it did. -/
def fnExactFromUintTo32UptoRow : OpenClaim := { program := "ytignbdajgnnlpaa", sum := "a970c1430d6c23c2f70c869ce4d1e6264b1dd9693e0d6927837abe3ce9d1d77b", func := "loop.example/pub-softwarefloats/laws.FnExactFromUintTo32", spec := "fnExactFromUintTo32", apart := false, narrowed := true }
def FnExactFromUintTo32UptoSaid : Prop := fnExactFromUintTo32UptoRow.holds Try.pinned (OpenSpec.upto fnExactFromUintTo32Spec)

/-- 'laws.FnUintBack', WHERE WHAT IT READS IS OF BULK AT MOST 1048576: true; the input reads as it did. -/
def fnUintBackUptoRow : OpenClaim := { program := "ytignbdajgnnlpaa", sum := "a970c1430d6c23c2f70c869ce4d1e6264b1dd9693e0d6927837abe3ce9d1d77b", func := "loop.example/pub-softwarefloats/laws.FnUintBack", spec := "fnUintBack", apart := false, narrowed := true }
def FnUintBackUptoSaid : Prop := fnUintBackUptoRow.holds Try.pinned (OpenSpec.upto fnUintBackSpec)

end Rows
end Go.Proofs.Ytignbdajgnnlpaa
