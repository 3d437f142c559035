/-
  No cell of these rows narrows 'for every input' (looked for: loops, veiled, ifaces, maps, wideKeys, modest, calm, conditions, laid).
  DERIVED. THE GIVEN ROWS OF THIS SEAT. 12 by the template 'for every input the law returns true; each argument reads behind the call as it read before'; 0 by the template 'total and deterministic' (their statements: YtajlbgdebmkbaaaTotals.lean).
  GIVEN WITH THE SEED: the statements are not yours to turn. If you find one false, say at which input.
  Laid BY PROGRAM, IN A SANDBOX (cutbox-rows.mjs): the forced cells as the released guide's own fill.sh prints them over the translation 8068460a12dc37bb… (all of the seat's roots in one cut). By AI agents, Wed Nov 11 2026. No macro, syntax, notation, axiom, sorry.
-/
import Derived.Test.YtajlbgdebmkbaaaChecked
import GoSem.Claim
import GoSem.ClaimJoined
import GoSem.ClaimMapViews
import Derived.JoinedTies
import Derived.KernelRfl
namespace Go.Proofs.Ytajlbgdebmkbaaa
/- THE CELL 'sum', in the pinned program and in every row, IS THE sha256 OF THE DUMP (.gsa) THAT YtajlbgdebmkbaaaProg.lean LOADS. Nothing in Lean hashes anything: it is a label: what it is worth is what the hold of that sum in a sandbox is worth. -/
noncomputable def Try.pinned : Pinned := { name := "ytajlbgdebmkbaaa", sum := "8068460a12dc37bbc36676ade6cba53fc2b0c707a3314c3e80238a725deae0a6", checked := Try.checked }
namespace Rows
def none {H : Type} : Left H := { results := [], args := [] }

/-- 'laws.FnNarrowOrder': WHATEVER THE INPUT: true; the input reads as it did. -/
def fnNarrowOrderSpec : ChangeSpec := { name := "fnNarrowOrder", fn := fun _ => fun
  | [d1, d2] => { results := [.lit (.bool true)], args := [d1, d2] }
  | _ => none }
def fnNarrowOrderRow : OpenClaim := { program := "ytajlbgdebmkbaaa", sum := "8068460a12dc37bbc36676ade6cba53fc2b0c707a3314c3e80238a725deae0a6", func := "loop.example/pub-softwarefloats/laws.FnNarrowOrder", spec := "fnNarrowOrder", apart := false }
def FnNarrowOrderSaid : Prop := fnNarrowOrderRow.holds Try.pinned (OpenSpec.ofChange fnNarrowOrderSpec)

/-- ITS FALSE NEIGHBOUR: 'it returns false'. Refute it at one input. -/
def fnNarrowOrderWrong : ChangeSpec := { name := "fnNarrowOrder", fn := fun _ => fun
  | [d1, d2] => { results := [.lit (.bool false)], args := [d1, d2] }
  | _ => none }
def FnNarrowOrderWrongFalsely : Prop := fnNarrowOrderRow.holds Try.pinned (OpenSpec.ofChange fnNarrowOrderWrong)

/-- 'laws.FnExactWiden': WHATEVER THE INPUT: true; the input reads as it did. -/
def fnExactWidenSpec : ChangeSpec := { name := "fnExactWiden", fn := fun _ => fun
  | [d] => { results := [.lit (.bool true)], args := [d] }
  | _ => none }
def fnExactWidenRow : OpenClaim := { program := "ytajlbgdebmkbaaa", sum := "8068460a12dc37bbc36676ade6cba53fc2b0c707a3314c3e80238a725deae0a6", func := "loop.example/pub-softwarefloats/laws.FnExactWiden", spec := "fnExactWiden", apart := false }
def FnExactWidenSaid : Prop := fnExactWidenRow.holds Try.pinned (OpenSpec.ofChange fnExactWidenSpec)

/-- ITS FALSE NEIGHBOUR: 'it returns false'. Refute it at one input. -/
def fnExactWidenWrong : ChangeSpec := { name := "fnExactWiden", fn := fun _ => fun
  | [d] => { results := [.lit (.bool false)], args := [d] }
  | _ => none }
def FnExactWidenWrongFalsely : Prop := fnExactWidenRow.holds Try.pinned (OpenSpec.ofChange fnExactWidenWrong)

/-- 'laws.FnGo32': WHATEVER THE INPUT: true; the input reads as it did. -/
def fnGo32Spec : ChangeSpec := { name := "fnGo32", fn := fun _ => fun
  | [d1, d2] => { results := [.lit (.bool true)], args := [d1, d2] }
  | _ => none }
def fnGo32Row : OpenClaim := { program := "ytajlbgdebmkbaaa", sum := "8068460a12dc37bbc36676ade6cba53fc2b0c707a3314c3e80238a725deae0a6", func := "loop.example/pub-softwarefloats/laws.FnGo32", spec := "fnGo32", inPlace := ["math.Float32frombits", "math.Float32bits"], apart := false }
def FnGo32Said : Prop := fnGo32Row.holds Try.pinned (OpenSpec.ofChange fnGo32Spec)

/-- ITS FALSE NEIGHBOUR: 'it returns false'. Refute it at one input. -/
def fnGo32Wrong : ChangeSpec := { name := "fnGo32", fn := fun _ => fun
  | [d1, d2] => { results := [.lit (.bool false)], args := [d1, d2] }
  | _ => none }
def FnGo32WrongFalsely : Prop := fnGo32Row.holds Try.pinned (OpenSpec.ofChange fnGo32Wrong)

/-- 'laws.FnExactMul64': WHATEVER THE INPUT: true; the input reads as it did. -/
def fnExactMul64Spec : ChangeSpec := { name := "fnExactMul64", fn := fun _ => fun
  | [d1, d2] => { results := [.lit (.bool true)], args := [d1, d2] }
  | _ => none }
def fnExactMul64Row : OpenClaim := { program := "ytajlbgdebmkbaaa", sum := "8068460a12dc37bbc36676ade6cba53fc2b0c707a3314c3e80238a725deae0a6", func := "loop.example/pub-softwarefloats/laws.FnExactMul64", spec := "fnExactMul64", apart := false }
def FnExactMul64Said : Prop := fnExactMul64Row.holds Try.pinned (OpenSpec.ofChange fnExactMul64Spec)

/-- ITS FALSE NEIGHBOUR: 'it returns false'. Refute it at one input. -/
def fnExactMul64Wrong : ChangeSpec := { name := "fnExactMul64", fn := fun _ => fun
  | [d1, d2] => { results := [.lit (.bool false)], args := [d1, d2] }
  | _ => none }
def FnExactMul64WrongFalsely : Prop := fnExactMul64Row.holds Try.pinned (OpenSpec.ofChange fnExactMul64Wrong)

/-- 'laws.FnExactAdd64': WHATEVER THE INPUT: true; the input reads as it did. -/
def fnExactAdd64Spec : ChangeSpec := { name := "fnExactAdd64", fn := fun _ => fun
  | [d1, d2] => { results := [.lit (.bool true)], args := [d1, d2] }
  | _ => none }
def fnExactAdd64Row : OpenClaim := { program := "ytajlbgdebmkbaaa", sum := "8068460a12dc37bbc36676ade6cba53fc2b0c707a3314c3e80238a725deae0a6", func := "loop.example/pub-softwarefloats/laws.FnExactAdd64", spec := "fnExactAdd64", apart := false }
def FnExactAdd64Said : Prop := fnExactAdd64Row.holds Try.pinned (OpenSpec.ofChange fnExactAdd64Spec)

/-- ITS FALSE NEIGHBOUR: 'it returns false'. Refute it at one input. -/
def fnExactAdd64Wrong : ChangeSpec := { name := "fnExactAdd64", fn := fun _ => fun
  | [d1, d2] => { results := [.lit (.bool false)], args := [d1, d2] }
  | _ => none }
def FnExactAdd64WrongFalsely : Prop := fnExactAdd64Row.holds Try.pinned (OpenSpec.ofChange fnExactAdd64Wrong)

/-- 'laws.FnOpposite64': WHATEVER THE INPUT: true; the input reads as it did. -/
def fnOpposite64Spec : ChangeSpec := { name := "fnOpposite64", fn := fun _ => fun
  | [d] => { results := [.lit (.bool true)], args := [d] }
  | _ => none }
def fnOpposite64Row : OpenClaim := { program := "ytajlbgdebmkbaaa", sum := "8068460a12dc37bbc36676ade6cba53fc2b0c707a3314c3e80238a725deae0a6", func := "loop.example/pub-softwarefloats/laws.FnOpposite64", spec := "fnOpposite64", apart := false }
def FnOpposite64Said : Prop := fnOpposite64Row.holds Try.pinned (OpenSpec.ofChange fnOpposite64Spec)

/-- ITS FALSE NEIGHBOUR: 'it returns false'. Refute it at one input. -/
def fnOpposite64Wrong : ChangeSpec := { name := "fnOpposite64", fn := fun _ => fun
  | [d] => { results := [.lit (.bool false)], args := [d] }
  | _ => none }
def FnOpposite64WrongFalsely : Prop := fnOpposite64Row.holds Try.pinned (OpenSpec.ofChange fnOpposite64Wrong)

/-- 'laws.FnIntBack': WHATEVER THE INPUT: true; the input reads as it did. -/
def fnIntBackSpec : ChangeSpec := { name := "fnIntBack", fn := fun _ => fun
  | [d] => { results := [.lit (.bool true)], args := [d] }
  | _ => none }
def fnIntBackRow : OpenClaim := { program := "ytajlbgdebmkbaaa", sum := "8068460a12dc37bbc36676ade6cba53fc2b0c707a3314c3e80238a725deae0a6", func := "loop.example/pub-softwarefloats/laws.FnIntBack", spec := "fnIntBack", apart := false }
def FnIntBackSaid : Prop := fnIntBackRow.holds Try.pinned (OpenSpec.ofChange fnIntBackSpec)

/-- ITS FALSE NEIGHBOUR: 'it returns false'. Refute it at one input. -/
def fnIntBackWrong : ChangeSpec := { name := "fnIntBack", fn := fun _ => fun
  | [d] => { results := [.lit (.bool false)], args := [d] }
  | _ => none }
def FnIntBackWrongFalsely : Prop := fnIntBackRow.holds Try.pinned (OpenSpec.ofChange fnIntBackWrong)

/-- 'laws.FnExactFromInt32': WHATEVER THE INPUT: true; the input reads as it did. -/
def fnExactFromInt32Spec : ChangeSpec := { name := "fnExactFromInt32", fn := fun _ => fun
  | [d] => { results := [.lit (.bool true)], args := [d] }
  | _ => none }
def fnExactFromInt32Row : OpenClaim := { program := "ytajlbgdebmkbaaa", sum := "8068460a12dc37bbc36676ade6cba53fc2b0c707a3314c3e80238a725deae0a6", func := "loop.example/pub-softwarefloats/laws.FnExactFromInt32", spec := "fnExactFromInt32", apart := false }
def FnExactFromInt32Said : Prop := fnExactFromInt32Row.holds Try.pinned (OpenSpec.ofChange fnExactFromInt32Spec)

/-- ITS FALSE NEIGHBOUR: 'it returns false'. Refute it at one input. -/
def fnExactFromInt32Wrong : ChangeSpec := { name := "fnExactFromInt32", fn := fun _ => fun
  | [d] => { results := [.lit (.bool false)], args := [d] }
  | _ => none }
def FnExactFromInt32WrongFalsely : Prop := fnExactFromInt32Row.holds Try.pinned (OpenSpec.ofChange fnExactFromInt32Wrong)

/-- 'laws.FnExactSub64': WHATEVER THE INPUT: true; the input reads as it did. -/
def fnExactSub64Spec : ChangeSpec := { name := "fnExactSub64", fn := fun _ => fun
  | [d1, d2] => { results := [.lit (.bool true)], args := [d1, d2] }
  | _ => none }
def fnExactSub64Row : OpenClaim := { program := "ytajlbgdebmkbaaa", sum := "8068460a12dc37bbc36676ade6cba53fc2b0c707a3314c3e80238a725deae0a6", func := "loop.example/pub-softwarefloats/laws.FnExactSub64", spec := "fnExactSub64", apart := false }
def FnExactSub64Said : Prop := fnExactSub64Row.holds Try.pinned (OpenSpec.ofChange fnExactSub64Spec)

/-- ITS FALSE NEIGHBOUR: 'it returns false'. Refute it at one input. -/
def fnExactSub64Wrong : ChangeSpec := { name := "fnExactSub64", fn := fun _ => fun
  | [d1, d2] => { results := [.lit (.bool false)], args := [d1, d2] }
  | _ => none }
def FnExactSub64WrongFalsely : Prop := fnExactSub64Row.holds Try.pinned (OpenSpec.ofChange fnExactSub64Wrong)

/-- 'laws.FnInt32Back': WHATEVER THE INPUT: true; the input reads as it did. -/
def fnInt32BackSpec : ChangeSpec := { name := "fnInt32Back", fn := fun _ => fun
  | [d] => { results := [.lit (.bool true)], args := [d] }
  | _ => none }
def fnInt32BackRow : OpenClaim := { program := "ytajlbgdebmkbaaa", sum := "8068460a12dc37bbc36676ade6cba53fc2b0c707a3314c3e80238a725deae0a6", func := "loop.example/pub-softwarefloats/laws.FnInt32Back", spec := "fnInt32Back", apart := false }
def FnInt32BackSaid : Prop := fnInt32BackRow.holds Try.pinned (OpenSpec.ofChange fnInt32BackSpec)

/-- ITS FALSE NEIGHBOUR: 'it returns false'. Refute it at one input. -/
def fnInt32BackWrong : ChangeSpec := { name := "fnInt32Back", fn := fun _ => fun
  | [d] => { results := [.lit (.bool false)], args := [d] }
  | _ => none }
def FnInt32BackWrongFalsely : Prop := fnInt32BackRow.holds Try.pinned (OpenSpec.ofChange fnInt32BackWrong)

/-- 'laws.FnNear': WHATEVER THE INPUT: true; the input reads as it did. -/
def fnNearSpec : ChangeSpec := { name := "fnNear", fn := fun _ => fun
  | [d1, d2] => { results := [.lit (.bool true)], args := [d1, d2] }
  | _ => none }
def fnNearRow : OpenClaim := { program := "ytajlbgdebmkbaaa", sum := "8068460a12dc37bbc36676ade6cba53fc2b0c707a3314c3e80238a725deae0a6", func := "loop.example/pub-softwarefloats/laws.FnNear", spec := "fnNear", apart := false }
def FnNearSaid : Prop := fnNearRow.holds Try.pinned (OpenSpec.ofChange fnNearSpec)

/-- ITS FALSE NEIGHBOUR: 'it returns false'. Refute it at one input. -/
def fnNearWrong : ChangeSpec := { name := "fnNear", fn := fun _ => fun
  | [d1, d2] => { results := [.lit (.bool false)], args := [d1, d2] }
  | _ => none }
def FnNearWrongFalsely : Prop := fnNearRow.holds Try.pinned (OpenSpec.ofChange fnNearWrong)

/-- 'laws.FnSubTurned': WHATEVER THE INPUT: true; the input reads as it did. -/
def fnSubTurnedSpec : ChangeSpec := { name := "fnSubTurned", fn := fun _ => fun
  | [d1, d2] => { results := [.lit (.bool true)], args := [d1, d2] }
  | _ => none }
def fnSubTurnedRow : OpenClaim := { program := "ytajlbgdebmkbaaa", sum := "8068460a12dc37bbc36676ade6cba53fc2b0c707a3314c3e80238a725deae0a6", func := "loop.example/pub-softwarefloats/laws.FnSubTurned", spec := "fnSubTurned", apart := false }
def FnSubTurnedSaid : Prop := fnSubTurnedRow.holds Try.pinned (OpenSpec.ofChange fnSubTurnedSpec)

/-- ITS FALSE NEIGHBOUR: 'it returns false'. Refute it at one input. -/
def fnSubTurnedWrong : ChangeSpec := { name := "fnSubTurned", fn := fun _ => fun
  | [d1, d2] => { results := [.lit (.bool false)], args := [d1, d2] }
  | _ => none }
def FnSubTurnedWrongFalsely : Prop := fnSubTurnedRow.holds Try.pinned (OpenSpec.ofChange fnSubTurnedWrong)

/- THE SECOND FORM. 'bulk': how many values and letters a reading holds, each counted each time it is reached (what is shared counts as often as it is met; a slice's spare places count too). A statement '..UptoSaid' is the law's where the arguments, and the package variables that the reading takes, are together of bulk at most 1048576: NARROWER than '..Said'. Prove '..Said' where nothing that the law and all that it calls make is longer than what came in: it says more and counts as full. Else prove '..UptoSaid'. A law counts once. -/
mutual
def uptoBulk {H : Type} : DataW H → Nat
  | .lit (.string bytes) => bytes.length + 1
  | .lit _ => 1
  | .nil => 1
  | .ptr d => uptoBulk d + 1
  | .slice elems spare => uptoBulkAll elems + uptoBulkAll spare + 1
  | .agg parts => uptoBulkAll parts + 1
  | .iface _ d => uptoBulk d + 1
  | .map entries => uptoBulkEntries entries + 1
  | .held _ => 1
def uptoBulkAll {H : Type} : List (DataW H) → Nat
  | [] => 0
  | d :: r => uptoBulk d + uptoBulkAll r
def uptoBulkEntries {H : Type} : List (Lit × DataW H) → Nat
  | [] => 0
  | x :: r => uptoBulkEntry x + uptoBulkEntries r
def uptoBulkEntry {H : Type} : Lit × DataW H → Nat
  | (.string bytes, d) => bytes.length + uptoBulk d + 1
  | (_, d) => uptoBulk d + 1
 end
def uptoSmall : (H : Type) → List (DataW H) → Bool := fun _ ds => decide (uptoBulkAll ds ≤ 1048576)
def OpenSpec.upto (s : _root_.Go.ChangeSpec) : _root_.Go.OpenSpec := { _root_.Go.OpenSpec.ofChange s with cond := some uptoSmall }

/-- 'laws.FnNarrowOrder', WHERE WHAT IT READS IS OF BULK AT MOST 1048576: true; the input reads as it did. -/
def fnNarrowOrderUptoRow : OpenClaim := { program := "ytajlbgdebmkbaaa", sum := "8068460a12dc37bbc36676ade6cba53fc2b0c707a3314c3e80238a725deae0a6", func := "loop.example/pub-softwarefloats/laws.FnNarrowOrder", spec := "fnNarrowOrder", apart := false, narrowed := true }
def FnNarrowOrderUptoSaid : Prop := fnNarrowOrderUptoRow.holds Try.pinned (OpenSpec.upto fnNarrowOrderSpec)

/-- 'laws.FnExactWiden', WHERE WHAT IT READS IS OF BULK AT MOST 1048576: true; the input reads as it did. -/
def fnExactWidenUptoRow : OpenClaim := { program := "ytajlbgdebmkbaaa", sum := "8068460a12dc37bbc36676ade6cba53fc2b0c707a3314c3e80238a725deae0a6", func := "loop.example/pub-softwarefloats/laws.FnExactWiden", spec := "fnExactWiden", apart := false, narrowed := true }
def FnExactWidenUptoSaid : Prop := fnExactWidenUptoRow.holds Try.pinned (OpenSpec.upto fnExactWidenSpec)

/-- 'laws.FnGo32', WHERE WHAT IT READS IS OF BULK AT MOST 1048576: true; the input reads as it did. -/
def fnGo32UptoRow : OpenClaim := { program := "ytajlbgdebmkbaaa", sum := "8068460a12dc37bbc36676ade6cba53fc2b0c707a3314c3e80238a725deae0a6", func := "loop.example/pub-softwarefloats/laws.FnGo32", spec := "fnGo32", inPlace := ["math.Float32frombits", "math.Float32bits"], apart := false, narrowed := true }
def FnGo32UptoSaid : Prop := fnGo32UptoRow.holds Try.pinned (OpenSpec.upto fnGo32Spec)

/-- 'laws.FnExactMul64', WHERE WHAT IT READS IS OF BULK AT MOST 1048576: true; the input reads as it did. -/
def fnExactMul64UptoRow : OpenClaim := { program := "ytajlbgdebmkbaaa", sum := "8068460a12dc37bbc36676ade6cba53fc2b0c707a3314c3e80238a725deae0a6", func := "loop.example/pub-softwarefloats/laws.FnExactMul64", spec := "fnExactMul64", apart := false, narrowed := true }
def FnExactMul64UptoSaid : Prop := fnExactMul64UptoRow.holds Try.pinned (OpenSpec.upto fnExactMul64Spec)

/-- 'laws.FnExactAdd64', WHERE WHAT IT READS IS OF BULK AT MOST 1048576: true; the input reads as it did. -/
def fnExactAdd64UptoRow : OpenClaim := { program := "ytajlbgdebmkbaaa", sum := "8068460a12dc37bbc36676ade6cba53fc2b0c707a3314c3e80238a725deae0a6", func := "loop.example/pub-softwarefloats/laws.FnExactAdd64", spec := "fnExactAdd64", apart := false, narrowed := true }
def FnExactAdd64UptoSaid : Prop := fnExactAdd64UptoRow.holds Try.pinned (OpenSpec.upto fnExactAdd64Spec)

/-- 'laws.FnOpposite64', WHERE WHAT IT READS IS OF BULK AT MOST 1048576: true; the input reads as it did. -/
def fnOpposite64UptoRow : OpenClaim := { program := "ytajlbgdebmkbaaa", sum := "8068460a12dc37bbc36676ade6cba53fc2b0c707a3314c3e80238a725deae0a6", func := "loop.example/pub-softwarefloats/laws.FnOpposite64", spec := "fnOpposite64", apart := false, narrowed := true }
def FnOpposite64UptoSaid : Prop := fnOpposite64UptoRow.holds Try.pinned (OpenSpec.upto fnOpposite64Spec)

/-- 'laws.FnIntBack', WHERE WHAT IT READS IS OF BULK AT MOST 1048576: true; the input reads as it did. -/
def fnIntBackUptoRow : OpenClaim := { program := "ytajlbgdebmkbaaa", sum := "8068460a12dc37bbc36676ade6cba53fc2b0c707a3314c3e80238a725deae0a6", func := "loop.example/pub-softwarefloats/laws.FnIntBack", spec := "fnIntBack", apart := false, narrowed := true }
def FnIntBackUptoSaid : Prop := fnIntBackUptoRow.holds Try.pinned (OpenSpec.upto fnIntBackSpec)

/-- 'laws.FnExactFromInt32', WHERE WHAT IT READS IS OF BULK AT MOST 1048576: true; the input reads as it did. -/
def fnExactFromInt32UptoRow : OpenClaim := { program := "ytajlbgdebmkbaaa", sum := "8068460a12dc37bbc36676ade6cba53fc2b0c707a3314c3e80238a725deae0a6", func := "loop.example/pub-softwarefloats/laws.FnExactFromInt32", spec := "fnExactFromInt32", apart := false, narrowed := true }
def FnExactFromInt32UptoSaid : Prop := fnExactFromInt32UptoRow.holds Try.pinned (OpenSpec.upto fnExactFromInt32Spec)

/-- 'laws.FnExactSub64', WHERE WHAT IT READS IS OF BULK AT MOST 1048576: true; the input reads as it did. -/
def fnExactSub64UptoRow : OpenClaim := { program := "ytajlbgdebmkbaaa", sum := "8068460a12dc37bbc36676ade6cba53fc2b0c707a3314c3e80238a725deae0a6", func := "loop.example/pub-softwarefloats/laws.FnExactSub64", spec := "fnExactSub64", apart := false, narrowed := true }
def FnExactSub64UptoSaid : Prop := fnExactSub64UptoRow.holds Try.pinned (OpenSpec.upto fnExactSub64Spec)

/-- 'laws.FnInt32Back', WHERE WHAT IT READS IS OF BULK AT MOST 1048576: true; the input reads as it did. -/
def fnInt32BackUptoRow : OpenClaim := { program := "ytajlbgdebmkbaaa", sum := "8068460a12dc37bbc36676ade6cba53fc2b0c707a3314c3e80238a725deae0a6", func := "loop.example/pub-softwarefloats/laws.FnInt32Back", spec := "fnInt32Back", apart := false, narrowed := true }
def FnInt32BackUptoSaid : Prop := fnInt32BackUptoRow.holds Try.pinned (OpenSpec.upto fnInt32BackSpec)

/-- 'laws.FnNear', WHERE WHAT IT READS IS OF BULK AT MOST 1048576: true; the input reads as it did. -/
def fnNearUptoRow : OpenClaim := { program := "ytajlbgdebmkbaaa", sum := "8068460a12dc37bbc36676ade6cba53fc2b0c707a3314c3e80238a725deae0a6", func := "loop.example/pub-softwarefloats/laws.FnNear", spec := "fnNear", apart := false, narrowed := true }
def FnNearUptoSaid : Prop := fnNearUptoRow.holds Try.pinned (OpenSpec.upto fnNearSpec)

/-- 'laws.FnSubTurned', WHERE WHAT IT READS IS OF BULK AT MOST 1048576: true; the input reads as it did. -/
def fnSubTurnedUptoRow : OpenClaim := { program := "ytajlbgdebmkbaaa", sum := "8068460a12dc37bbc36676ade6cba53fc2b0c707a3314c3e80238a725deae0a6", func := "loop.example/pub-softwarefloats/laws.FnSubTurned", spec := "fnSubTurned", apart := false, narrowed := true }
def FnSubTurnedUptoSaid : Prop := fnSubTurnedUptoRow.holds Try.pinned (OpenSpec.upto fnSubTurnedSpec)

end Rows
end Go.Proofs.Ytajlbgdebmkbaaa
