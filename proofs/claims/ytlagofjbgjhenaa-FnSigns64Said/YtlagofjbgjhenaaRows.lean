/-
  No cell of these rows narrows 'for every input' (looked for: loops, veiled, ifaces, maps, wideKeys, modest, calm, conditions, laid).
  DERIVED. THE GIVEN ROWS OF THIS SEAT. 12 by the template 'for every input the law returns true; each argument reads behind the call as it read before'; 0 by the template 'total and deterministic' (their statements: YtlagofjbgjhenaaTotals.lean).
  GIVEN WITH THE SEED: the statements are not yours to turn. If you find one false, say at which input.
  Laid BY PROGRAM, IN A SANDBOX (cutbox-rows.mjs): the forced cells as the released guide's own fill.sh prints them over the translation d548a5a5c4b6da91… (all of the seat's roots in one cut). By AI agents, Wed Nov 11 2026. No macro, syntax, notation, axiom, sorry.
-/
import Derived.Test.YtlagofjbgjhenaaChecked
import GoSem.Claim
import GoSem.ClaimJoined
import GoSem.ClaimMapViews
import Derived.JoinedTies
import Derived.KernelRfl
namespace Go.Proofs.Ytlagofjbgjhenaa
/- THE CELL 'sum', in the pinned program and in every row, IS THE sha256 OF THE DUMP (.gsa) THAT YtlagofjbgjhenaaProg.lean LOADS. Nothing in Lean hashes anything: it is a label: what it is worth is what the hold of that sum in a sandbox is worth. -/
noncomputable def Try.pinned : Pinned := { name := "ytlagofjbgjhenaa", sum := "d548a5a5c4b6da915e9869303a9e09d104cbf81f2f60bd5d8b5e5faf243d62d9", checked := Try.checked }
namespace Rows
def none {H : Type} : Left H := { results := [], args := [] }

/-- 'laws.FnSigns64': WHATEVER THE INPUT: true; the input reads as it did. -/
def fnSigns64Spec : ChangeSpec := { name := "fnSigns64", fn := fun _ => fun
  | [d1, d2] => { results := [.lit (.bool true)], args := [d1, d2] }
  | _ => none }
def fnSigns64Row : OpenClaim := { program := "ytlagofjbgjhenaa", sum := "d548a5a5c4b6da915e9869303a9e09d104cbf81f2f60bd5d8b5e5faf243d62d9", func := "loop.example/pub-softwarefloats/laws.FnSigns64", spec := "fnSigns64", apart := false }
def FnSigns64Said : Prop := fnSigns64Row.holds Try.pinned (OpenSpec.ofChange fnSigns64Spec)

/-- ITS FALSE NEIGHBOUR: 'it returns false'. Refute it at one input. -/
def fnSigns64Wrong : ChangeSpec := { name := "fnSigns64", fn := fun _ => fun
  | [d1, d2] => { results := [.lit (.bool false)], args := [d1, d2] }
  | _ => none }
def FnSigns64WrongFalsely : Prop := fnSigns64Row.holds Try.pinned (OpenSpec.ofChange fnSigns64Wrong)

/-- 'laws.FnExactDiv64': WHATEVER THE INPUT: true; the input reads as it did. -/
def fnExactDiv64Spec : ChangeSpec := { name := "fnExactDiv64", fn := fun _ => fun
  | [d1, d2] => { results := [.lit (.bool true)], args := [d1, d2] }
  | _ => none }
def fnExactDiv64Row : OpenClaim := { program := "ytlagofjbgjhenaa", sum := "d548a5a5c4b6da915e9869303a9e09d104cbf81f2f60bd5d8b5e5faf243d62d9", func := "loop.example/pub-softwarefloats/laws.FnExactDiv64", spec := "fnExactDiv64", apart := false }
def FnExactDiv64Said : Prop := fnExactDiv64Row.holds Try.pinned (OpenSpec.ofChange fnExactDiv64Spec)

/-- ITS FALSE NEIGHBOUR: 'it returns false'. Refute it at one input. -/
def fnExactDiv64Wrong : ChangeSpec := { name := "fnExactDiv64", fn := fun _ => fun
  | [d1, d2] => { results := [.lit (.bool false)], args := [d1, d2] }
  | _ => none }
def FnExactDiv64WrongFalsely : Prop := fnExactDiv64Row.holds Try.pinned (OpenSpec.ofChange fnExactDiv64Wrong)

/-- 'laws.FnNeutral64': WHATEVER THE INPUT: true; the input reads as it did. -/
def fnNeutral64Spec : ChangeSpec := { name := "fnNeutral64", fn := fun _ => fun
  | [d] => { results := [.lit (.bool true)], args := [d] }
  | _ => none }
def fnNeutral64Row : OpenClaim := { program := "ytlagofjbgjhenaa", sum := "d548a5a5c4b6da915e9869303a9e09d104cbf81f2f60bd5d8b5e5faf243d62d9", func := "loop.example/pub-softwarefloats/laws.FnNeutral64", spec := "fnNeutral64", apart := false }
def FnNeutral64Said : Prop := fnNeutral64Row.holds Try.pinned (OpenSpec.ofChange fnNeutral64Spec)

/-- ITS FALSE NEIGHBOUR: 'it returns false'. Refute it at one input. -/
def fnNeutral64Wrong : ChangeSpec := { name := "fnNeutral64", fn := fun _ => fun
  | [d] => { results := [.lit (.bool false)], args := [d] }
  | _ => none }
def FnNeutral64WrongFalsely : Prop := fnNeutral64Row.holds Try.pinned (OpenSpec.ofChange fnNeutral64Wrong)

/-- 'laws.FnCommute64': WHATEVER THE INPUT: true; the input reads as it did. -/
def fnCommute64Spec : ChangeSpec := { name := "fnCommute64", fn := fun _ => fun
  | [d1, d2] => { results := [.lit (.bool true)], args := [d1, d2] }
  | _ => none }
def fnCommute64Row : OpenClaim := { program := "ytlagofjbgjhenaa", sum := "d548a5a5c4b6da915e9869303a9e09d104cbf81f2f60bd5d8b5e5faf243d62d9", func := "loop.example/pub-softwarefloats/laws.FnCommute64", spec := "fnCommute64", apart := false }
def FnCommute64Said : Prop := fnCommute64Row.holds Try.pinned (OpenSpec.ofChange fnCommute64Spec)

/-- ITS FALSE NEIGHBOUR: 'it returns false'. Refute it at one input. -/
def fnCommute64Wrong : ChangeSpec := { name := "fnCommute64", fn := fun _ => fun
  | [d1, d2] => { results := [.lit (.bool false)], args := [d1, d2] }
  | _ => none }
def FnCommute64WrongFalsely : Prop := fnCommute64Row.holds Try.pinned (OpenSpec.ofChange fnCommute64Wrong)

/-- 'laws.FnDouble64': WHATEVER THE INPUT: true; the input reads as it did. -/
def fnDouble64Spec : ChangeSpec := { name := "fnDouble64", fn := fun _ => fun
  | [d] => { results := [.lit (.bool true)], args := [d] }
  | _ => none }
def fnDouble64Row : OpenClaim := { program := "ytlagofjbgjhenaa", sum := "d548a5a5c4b6da915e9869303a9e09d104cbf81f2f60bd5d8b5e5faf243d62d9", func := "loop.example/pub-softwarefloats/laws.FnDouble64", spec := "fnDouble64", apart := false }
def FnDouble64Said : Prop := fnDouble64Row.holds Try.pinned (OpenSpec.ofChange fnDouble64Spec)

/-- ITS FALSE NEIGHBOUR: 'it returns false'. Refute it at one input. -/
def fnDouble64Wrong : ChangeSpec := { name := "fnDouble64", fn := fun _ => fun
  | [d] => { results := [.lit (.bool false)], args := [d] }
  | _ => none }
def FnDouble64WrongFalsely : Prop := fnDouble64Row.holds Try.pinned (OpenSpec.ofChange fnDouble64Wrong)

/-- 'laws.FnHalf64': WHATEVER THE INPUT: true; the input reads as it did. -/
def fnHalf64Spec : ChangeSpec := { name := "fnHalf64", fn := fun _ => fun
  | [d] => { results := [.lit (.bool true)], args := [d] }
  | _ => none }
def fnHalf64Row : OpenClaim := { program := "ytlagofjbgjhenaa", sum := "d548a5a5c4b6da915e9869303a9e09d104cbf81f2f60bd5d8b5e5faf243d62d9", func := "loop.example/pub-softwarefloats/laws.FnHalf64", spec := "fnHalf64", apart := false }
def FnHalf64Said : Prop := fnHalf64Row.holds Try.pinned (OpenSpec.ofChange fnHalf64Spec)

/-- ITS FALSE NEIGHBOUR: 'it returns false'. Refute it at one input. -/
def fnHalf64Wrong : ChangeSpec := { name := "fnHalf64", fn := fun _ => fun
  | [d] => { results := [.lit (.bool false)], args := [d] }
  | _ => none }
def FnHalf64WrongFalsely : Prop := fnHalf64Row.holds Try.pinned (OpenSpec.ofChange fnHalf64Wrong)

/-- 'laws.FnSubAdd': WHATEVER THE INPUT: true; the input reads as it did. -/
def fnSubAddSpec : ChangeSpec := { name := "fnSubAdd", fn := fun _ => fun
  | [d1, d2] => { results := [.lit (.bool true)], args := [d1, d2] }
  | _ => none }
def fnSubAddRow : OpenClaim := { program := "ytlagofjbgjhenaa", sum := "d548a5a5c4b6da915e9869303a9e09d104cbf81f2f60bd5d8b5e5faf243d62d9", func := "loop.example/pub-softwarefloats/laws.FnSubAdd", spec := "fnSubAdd", apart := false }
def FnSubAddSaid : Prop := fnSubAddRow.holds Try.pinned (OpenSpec.ofChange fnSubAddSpec)

/-- ITS FALSE NEIGHBOUR: 'it returns false'. Refute it at one input. -/
def fnSubAddWrong : ChangeSpec := { name := "fnSubAdd", fn := fun _ => fun
  | [d1, d2] => { results := [.lit (.bool false)], args := [d1, d2] }
  | _ => none }
def FnSubAddWrongFalsely : Prop := fnSubAddRow.holds Try.pinned (OpenSpec.ofChange fnSubAddWrong)

/-- 'laws.FnOpposite32': WHATEVER THE INPUT: true; the input reads as it did. -/
def fnOpposite32Spec : ChangeSpec := { name := "fnOpposite32", fn := fun _ => fun
  | [d] => { results := [.lit (.bool true)], args := [d] }
  | _ => none }
def fnOpposite32Row : OpenClaim := { program := "ytlagofjbgjhenaa", sum := "d548a5a5c4b6da915e9869303a9e09d104cbf81f2f60bd5d8b5e5faf243d62d9", func := "loop.example/pub-softwarefloats/laws.FnOpposite32", spec := "fnOpposite32", apart := false }
def FnOpposite32Said : Prop := fnOpposite32Row.holds Try.pinned (OpenSpec.ofChange fnOpposite32Spec)

/-- ITS FALSE NEIGHBOUR: 'it returns false'. Refute it at one input. -/
def fnOpposite32Wrong : ChangeSpec := { name := "fnOpposite32", fn := fun _ => fun
  | [d] => { results := [.lit (.bool false)], args := [d] }
  | _ => none }
def FnOpposite32WrongFalsely : Prop := fnOpposite32Row.holds Try.pinned (OpenSpec.ofChange fnOpposite32Wrong)

/-- 'laws.FnExactMul32': WHATEVER THE INPUT: true; the input reads as it did. -/
def fnExactMul32Spec : ChangeSpec := { name := "fnExactMul32", fn := fun _ => fun
  | [d1, d2] => { results := [.lit (.bool true)], args := [d1, d2] }
  | _ => none }
def fnExactMul32Row : OpenClaim := { program := "ytlagofjbgjhenaa", sum := "d548a5a5c4b6da915e9869303a9e09d104cbf81f2f60bd5d8b5e5faf243d62d9", func := "loop.example/pub-softwarefloats/laws.FnExactMul32", spec := "fnExactMul32", apart := false }
def FnExactMul32Said : Prop := fnExactMul32Row.holds Try.pinned (OpenSpec.ofChange fnExactMul32Spec)

/-- ITS FALSE NEIGHBOUR: 'it returns false'. Refute it at one input. -/
def fnExactMul32Wrong : ChangeSpec := { name := "fnExactMul32", fn := fun _ => fun
  | [d1, d2] => { results := [.lit (.bool false)], args := [d1, d2] }
  | _ => none }
def FnExactMul32WrongFalsely : Prop := fnExactMul32Row.holds Try.pinned (OpenSpec.ofChange fnExactMul32Wrong)

/-- 'laws.FnExactAdd32': WHATEVER THE INPUT: true; the input reads as it did. -/
def fnExactAdd32Spec : ChangeSpec := { name := "fnExactAdd32", fn := fun _ => fun
  | [d1, d2] => { results := [.lit (.bool true)], args := [d1, d2] }
  | _ => none }
def fnExactAdd32Row : OpenClaim := { program := "ytlagofjbgjhenaa", sum := "d548a5a5c4b6da915e9869303a9e09d104cbf81f2f60bd5d8b5e5faf243d62d9", func := "loop.example/pub-softwarefloats/laws.FnExactAdd32", spec := "fnExactAdd32", apart := false }
def FnExactAdd32Said : Prop := fnExactAdd32Row.holds Try.pinned (OpenSpec.ofChange fnExactAdd32Spec)

/-- ITS FALSE NEIGHBOUR: 'it returns false'. Refute it at one input. -/
def fnExactAdd32Wrong : ChangeSpec := { name := "fnExactAdd32", fn := fun _ => fun
  | [d1, d2] => { results := [.lit (.bool false)], args := [d1, d2] }
  | _ => none }
def FnExactAdd32WrongFalsely : Prop := fnExactAdd32Row.holds Try.pinned (OpenSpec.ofChange fnExactAdd32Wrong)

/-- 'laws.FnExactDiv32': WHATEVER THE INPUT: true; the input reads as it did. -/
def fnExactDiv32Spec : ChangeSpec := { name := "fnExactDiv32", fn := fun _ => fun
  | [d1, d2] => { results := [.lit (.bool true)], args := [d1, d2] }
  | _ => none }
def fnExactDiv32Row : OpenClaim := { program := "ytlagofjbgjhenaa", sum := "d548a5a5c4b6da915e9869303a9e09d104cbf81f2f60bd5d8b5e5faf243d62d9", func := "loop.example/pub-softwarefloats/laws.FnExactDiv32", spec := "fnExactDiv32", apart := false }
def FnExactDiv32Said : Prop := fnExactDiv32Row.holds Try.pinned (OpenSpec.ofChange fnExactDiv32Spec)

/-- ITS FALSE NEIGHBOUR: 'it returns false'. Refute it at one input. -/
def fnExactDiv32Wrong : ChangeSpec := { name := "fnExactDiv32", fn := fun _ => fun
  | [d1, d2] => { results := [.lit (.bool false)], args := [d1, d2] }
  | _ => none }
def FnExactDiv32WrongFalsely : Prop := fnExactDiv32Row.holds Try.pinned (OpenSpec.ofChange fnExactDiv32Wrong)

/-- 'laws.FnNeutral32': WHATEVER THE INPUT: true; the input reads as it did. -/
def fnNeutral32Spec : ChangeSpec := { name := "fnNeutral32", fn := fun _ => fun
  | [d] => { results := [.lit (.bool true)], args := [d] }
  | _ => none }
def fnNeutral32Row : OpenClaim := { program := "ytlagofjbgjhenaa", sum := "d548a5a5c4b6da915e9869303a9e09d104cbf81f2f60bd5d8b5e5faf243d62d9", func := "loop.example/pub-softwarefloats/laws.FnNeutral32", spec := "fnNeutral32", apart := false }
def FnNeutral32Said : Prop := fnNeutral32Row.holds Try.pinned (OpenSpec.ofChange fnNeutral32Spec)

/-- ITS FALSE NEIGHBOUR: 'it returns false'. Refute it at one input. -/
def fnNeutral32Wrong : ChangeSpec := { name := "fnNeutral32", fn := fun _ => fun
  | [d] => { results := [.lit (.bool false)], args := [d] }
  | _ => none }
def FnNeutral32WrongFalsely : Prop := fnNeutral32Row.holds Try.pinned (OpenSpec.ofChange fnNeutral32Wrong)

/- THE SECOND FORM. 'bulk': how many values and letters a reading holds, each counted each time it is reached (what is shared counts as often as it is met; a slice's spare places count too). A statement '..UptoSaid' is the law's where the arguments, and the package variables that the reading takes, are together of bulk at most 1048576: NARROWER than '..Said'. Prove '..Said' where nothing that the law and all that it calls make is longer than what came in: it says more and counts as full. Else prove '..UptoSaid'. A law counts once. -/
mutual
def uptoBulk {H : Type} : DataW H → Nat
  | .lit (.string bytes) => bytes.length + 1
  | .lit _ => 1
  | .nil => 1
  | .ptr d => uptoBulk d + 1
  | .slice elems spare => uptoBulkAll elems + uptoBulkAll spare + 1
  | .agg parts => uptoBulkAll parts + 1
  | .iface _ d => uptoBulk d + 1
  | .map entries => uptoBulkEntries entries + 1
  | .held _ => 1
def uptoBulkAll {H : Type} : List (DataW H) → Nat
  | [] => 0
  | d :: r => uptoBulk d + uptoBulkAll r
def uptoBulkEntries {H : Type} : List (Lit × DataW H) → Nat
  | [] => 0
  | x :: r => uptoBulkEntry x + uptoBulkEntries r
def uptoBulkEntry {H : Type} : Lit × DataW H → Nat
  | (.string bytes, d) => bytes.length + uptoBulk d + 1
  | (_, d) => uptoBulk d + 1
 end
def uptoSmall : (H : Type) → List (DataW H) → Bool := fun _ ds => decide (uptoBulkAll ds ≤ 1048576)
def OpenSpec.upto (s : _root_.Go.ChangeSpec) : _root_.Go.OpenSpec := { _root_.Go.OpenSpec.ofChange s with cond := some uptoSmall }

/-- 'laws.FnSigns64', WHERE WHAT IT READS IS OF BULK AT MOST 1048576: true; the input reads as it did. -/
def fnSigns64UptoRow : OpenClaim := { program := "ytlagofjbgjhenaa", sum := "d548a5a5c4b6da915e9869303a9e09d104cbf81f2f60bd5d8b5e5faf243d62d9", func := "loop.example/pub-softwarefloats/laws.FnSigns64", spec := "fnSigns64", apart := false, narrowed := true }
def FnSigns64UptoSaid : Prop := fnSigns64UptoRow.holds Try.pinned (OpenSpec.upto fnSigns64Spec)

/-- 'laws.FnExactDiv64', WHERE WHAT IT READS IS OF BULK AT MOST 1048576: true; the input reads as it did. -/
def fnExactDiv64UptoRow : OpenClaim := { program := "ytlagofjbgjhenaa", sum := "d548a5a5c4b6da915e9869303a9e09d104cbf81f2f60bd5d8b5e5faf243d62d9", func := "loop.example/pub-softwarefloats/laws.FnExactDiv64", spec := "fnExactDiv64", apart := false, narrowed := true }
def FnExactDiv64UptoSaid : Prop := fnExactDiv64UptoRow.holds Try.pinned (OpenSpec.upto fnExactDiv64Spec)

/-- 'laws.FnNeutral64', WHERE WHAT IT READS IS OF BULK AT MOST 1048576: true; the input reads as it did. -/
def fnNeutral64UptoRow : OpenClaim := { program := "ytlagofjbgjhenaa", sum := "d548a5a5c4b6da915e9869303a9e09d104cbf81f2f60bd5d8b5e5faf243d62d9", func := "loop.example/pub-softwarefloats/laws.FnNeutral64", spec := "fnNeutral64", apart := false, narrowed := true }
def FnNeutral64UptoSaid : Prop := fnNeutral64UptoRow.holds Try.pinned (OpenSpec.upto fnNeutral64Spec)

/-- 'laws.FnCommute64', WHERE WHAT IT READS IS OF BULK AT MOST 1048576: true; the input reads as it did. -/
def fnCommute64UptoRow : OpenClaim := { program := "ytlagofjbgjhenaa", sum := "d548a5a5c4b6da915e9869303a9e09d104cbf81f2f60bd5d8b5e5faf243d62d9", func := "loop.example/pub-softwarefloats/laws.FnCommute64", spec := "fnCommute64", apart := false, narrowed := true }
def FnCommute64UptoSaid : Prop := fnCommute64UptoRow.holds Try.pinned (OpenSpec.upto fnCommute64Spec)

/-- 'laws.FnDouble64', WHERE WHAT IT READS IS OF BULK AT MOST 1048576: true; the input reads as it did. -/
def fnDouble64UptoRow : OpenClaim := { program := "ytlagofjbgjhenaa", sum := "d548a5a5c4b6da915e9869303a9e09d104cbf81f2f60bd5d8b5e5faf243d62d9", func := "loop.example/pub-softwarefloats/laws.FnDouble64", spec := "fnDouble64", apart := false, narrowed := true }
def FnDouble64UptoSaid : Prop := fnDouble64UptoRow.holds Try.pinned (OpenSpec.upto fnDouble64Spec)

/-- 'laws.FnHalf64', WHERE WHAT IT READS IS OF BULK AT MOST 1048576: true; the input reads as it did. -/
def fnHalf64UptoRow : OpenClaim := { program := "ytlagofjbgjhenaa", sum := "d548a5a5c4b6da915e9869303a9e09d104cbf81f2f60bd5d8b5e5faf243d62d9", func := "loop.example/pub-softwarefloats/laws.FnHalf64", spec := "fnHalf64", apart := false, narrowed := true }
def FnHalf64UptoSaid : Prop := fnHalf64UptoRow.holds Try.pinned (OpenSpec.upto fnHalf64Spec)

/-- 'laws.FnSubAdd', WHERE WHAT IT READS IS OF BULK AT MOST 1048576: true; the input reads as it did. -/
def fnSubAddUptoRow : OpenClaim := { program := "ytlagofjbgjhenaa", sum := "d548a5a5c4b6da915e9869303a9e09d104cbf81f2f60bd5d8b5e5faf243d62d9", func := "loop.example/pub-softwarefloats/laws.FnSubAdd", spec := "fnSubAdd", apart := false, narrowed := true }
def FnSubAddUptoSaid : Prop := fnSubAddUptoRow.holds Try.pinned (OpenSpec.upto fnSubAddSpec)

/-- 'laws.FnOpposite32', WHERE WHAT IT READS IS OF BULK AT MOST 1048576: true; the input reads as it did. -/
def fnOpposite32UptoRow : OpenClaim := { program := "ytlagofjbgjhenaa", sum := "d548a5a5c4b6da915e9869303a9e09d104cbf81f2f60bd5d8b5e5faf243d62d9", func := "loop.example/pub-softwarefloats/laws.FnOpposite32", spec := "fnOpposite32", apart := false, narrowed := true }
def FnOpposite32UptoSaid : Prop := fnOpposite32UptoRow.holds Try.pinned (OpenSpec.upto fnOpposite32Spec)

/-- 'laws.FnExactMul32', WHERE WHAT IT READS IS OF BULK AT MOST 1048576: true; the input reads as it did. -/
def fnExactMul32UptoRow : OpenClaim := { program := "ytlagofjbgjhenaa", sum := "d548a5a5c4b6da915e9869303a9e09d104cbf81f2f60bd5d8b5e5faf243d62d9", func := "loop.example/pub-softwarefloats/laws.FnExactMul32", spec := "fnExactMul32", apart := false, narrowed := true }
def FnExactMul32UptoSaid : Prop := fnExactMul32UptoRow.holds Try.pinned (OpenSpec.upto fnExactMul32Spec)

/-- 'laws.FnExactAdd32', WHERE WHAT IT READS IS OF BULK AT MOST 1048576: true; the input reads as it did. -/
def fnExactAdd32UptoRow : OpenClaim := { program := "ytlagofjbgjhenaa", sum := "d548a5a5c4b6da915e9869303a9e09d104cbf81f2f60bd5d8b5e5faf243d62d9", func := "loop.example/pub-softwarefloats/laws.FnExactAdd32", spec := "fnExactAdd32", apart := false, narrowed := true }
def FnExactAdd32UptoSaid : Prop := fnExactAdd32UptoRow.holds Try.pinned (OpenSpec.upto fnExactAdd32Spec)

/-- 'laws.FnExactDiv32', WHERE WHAT IT READS IS OF BULK AT MOST 1048576: true; the input reads as it did. -/
def fnExactDiv32UptoRow : OpenClaim := { program := "ytlagofjbgjhenaa", sum := "d548a5a5c4b6da915e9869303a9e09d104cbf81f2f60bd5d8b5e5faf243d62d9", func := "loop.example/pub-softwarefloats/laws.FnExactDiv32", spec := "fnExactDiv32", apart := false, narrowed := true }
def FnExactDiv32UptoSaid : Prop := fnExactDiv32UptoRow.holds Try.pinned (OpenSpec.upto fnExactDiv32Spec)

/-- 'laws.FnNeutral32', WHERE WHAT IT READS IS OF BULK AT MOST 1048576: true; the input reads as it did. -/
def fnNeutral32UptoRow : OpenClaim := { program := "ytlagofjbgjhenaa", sum := "d548a5a5c4b6da915e9869303a9e09d104cbf81f2f60bd5d8b5e5faf243d62d9", func := "loop.example/pub-softwarefloats/laws.FnNeutral32", spec := "fnNeutral32", apart := false, narrowed := true }
def FnNeutral32UptoSaid : Prop := fnNeutral32UptoRow.holds Try.pinned (OpenSpec.upto fnNeutral32Spec)

end Rows
end Go.Proofs.Ytlagofjbgjhenaa
