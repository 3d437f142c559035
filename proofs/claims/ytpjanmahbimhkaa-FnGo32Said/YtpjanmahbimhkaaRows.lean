/-
  No cell of these rows narrows 'for every input' (looked for: loops, veiled, ifaces, maps, wideKeys, modest, calm, conditions, laid).
  DERIVED. THE GIVEN ROWS OF THIS SEAT. 11 by the template 'for every input the law returns true; each argument reads behind the call as it read before'; 0 by the template 'total and deterministic' (their statements: YtpjanmahbimhkaaTotals.lean).
  GIVEN WITH THE SEED: the statements are not yours to turn. If you find one false, say at which input.
  Laid BY PROGRAM, IN A SANDBOX (cutbox-rows.mjs): the forced cells as the released guide's own fill.sh prints them over the translation c46503ce068ff70b… (all of the seat's roots in one cut). By AI agents, Wed Nov 11 2026. No macro, syntax, notation, axiom, sorry.
-/
import Derived.Test.YtpjanmahbimhkaaChecked
import GoSem.Claim
import GoSem.ClaimJoined
import GoSem.ClaimMapViews
import Derived.JoinedTies
import Derived.KernelRfl
namespace Go.Proofs.Ytpjanmahbimhkaa
/- THE CELL 'sum', in the pinned program and in every row, IS THE sha256 OF THE DUMP (.gsa) THAT YtpjanmahbimhkaaProg.lean LOADS. Nothing in Lean hashes anything: it is a label: what it is worth is what the hold of that sum in a sandbox is worth. -/
noncomputable def Try.pinned : Pinned := { name := "ytpjanmahbimhkaa", sum := "c46503ce068ff70b4b2e1e284475395ddcc764c36e8f624db810bb398580ba81", checked := Try.checked }
namespace Rows
def none {H : Type} : Left H := { results := [], args := [] }

/-- 'laws.FnIntBack': WHATEVER THE INPUT: true; the input reads as it did. -/
def fnIntBackSpec : ChangeSpec := { name := "fnIntBack", fn := fun _ => fun
  | [d] => { results := [.lit (.bool true)], args := [d] }
  | _ => none }
def fnIntBackRow : OpenClaim := { program := "ytpjanmahbimhkaa", sum := "c46503ce068ff70b4b2e1e284475395ddcc764c36e8f624db810bb398580ba81", func := "loop.example/pub-softwarefloats/laws.FnIntBack", spec := "fnIntBack", apart := false }
def FnIntBackSaid : Prop := fnIntBackRow.holds Try.pinned (OpenSpec.ofChange fnIntBackSpec)

/-- ITS FALSE NEIGHBOUR: 'it returns false'. Refute it at one input. -/
def fnIntBackWrong : ChangeSpec := { name := "fnIntBack", fn := fun _ => fun
  | [d] => { results := [.lit (.bool false)], args := [d] }
  | _ => none }
def FnIntBackWrongFalsely : Prop := fnIntBackRow.holds Try.pinned (OpenSpec.ofChange fnIntBackWrong)

/-- 'laws.FnInt32Back': WHATEVER THE INPUT: true; the input reads as it did. -/
def fnInt32BackSpec : ChangeSpec := { name := "fnInt32Back", fn := fun _ => fun
  | [d] => { results := [.lit (.bool true)], args := [d] }
  | _ => none }
def fnInt32BackRow : OpenClaim := { program := "ytpjanmahbimhkaa", sum := "c46503ce068ff70b4b2e1e284475395ddcc764c36e8f624db810bb398580ba81", func := "loop.example/pub-softwarefloats/laws.FnInt32Back", spec := "fnInt32Back", apart := false }
def FnInt32BackSaid : Prop := fnInt32BackRow.holds Try.pinned (OpenSpec.ofChange fnInt32BackSpec)

/-- ITS FALSE NEIGHBOUR: 'it returns false'. Refute it at one input. -/
def fnInt32BackWrong : ChangeSpec := { name := "fnInt32Back", fn := fun _ => fun
  | [d] => { results := [.lit (.bool false)], args := [d] }
  | _ => none }
def FnInt32BackWrongFalsely : Prop := fnInt32BackRow.holds Try.pinned (OpenSpec.ofChange fnInt32BackWrong)

/-- 'laws.FnIntSums': WHATEVER THE INPUT: true; the input reads as it did. -/
def fnIntSumsSpec : ChangeSpec := { name := "fnIntSums", fn := fun _ => fun
  | [d1, d2, d3, d4] => { results := [.lit (.bool true)], args := [d1, d2, d3, d4] }
  | _ => none }
def fnIntSumsRow : OpenClaim := { program := "ytpjanmahbimhkaa", sum := "c46503ce068ff70b4b2e1e284475395ddcc764c36e8f624db810bb398580ba81", func := "loop.example/pub-softwarefloats/laws.FnIntSums", spec := "fnIntSums", apart := false }
def FnIntSumsSaid : Prop := fnIntSumsRow.holds Try.pinned (OpenSpec.ofChange fnIntSumsSpec)

/-- ITS FALSE NEIGHBOUR: 'it returns false'. Refute it at one input. -/
def fnIntSumsWrong : ChangeSpec := { name := "fnIntSums", fn := fun _ => fun
  | [d1, d2, d3, d4] => { results := [.lit (.bool false)], args := [d1, d2, d3, d4] }
  | _ => none }
def FnIntSumsWrongFalsely : Prop := fnIntSumsRow.holds Try.pinned (OpenSpec.ofChange fnIntSumsWrong)

/-- 'laws.FnIntQuotients': WHATEVER THE INPUT: true; the input reads as it did. -/
def fnIntQuotientsSpec : ChangeSpec := { name := "fnIntQuotients", fn := fun _ => fun
  | [d1, d2] => { results := [.lit (.bool true)], args := [d1, d2] }
  | _ => none }
def fnIntQuotientsRow : OpenClaim := { program := "ytpjanmahbimhkaa", sum := "c46503ce068ff70b4b2e1e284475395ddcc764c36e8f624db810bb398580ba81", func := "loop.example/pub-softwarefloats/laws.FnIntQuotients", spec := "fnIntQuotients", apart := false }
def FnIntQuotientsSaid : Prop := fnIntQuotientsRow.holds Try.pinned (OpenSpec.ofChange fnIntQuotientsSpec)

/-- ITS FALSE NEIGHBOUR: 'it returns false'. Refute it at one input. -/
def fnIntQuotientsWrong : ChangeSpec := { name := "fnIntQuotients", fn := fun _ => fun
  | [d1, d2] => { results := [.lit (.bool false)], args := [d1, d2] }
  | _ => none }
def FnIntQuotientsWrongFalsely : Prop := fnIntQuotientsRow.holds Try.pinned (OpenSpec.ofChange fnIntQuotientsWrong)

/-- 'laws.FnUnsigned': WHATEVER THE INPUT: true; the input reads as it did. -/
def fnUnsignedSpec : ChangeSpec := { name := "fnUnsigned", fn := fun _ => fun
  | [d] => { results := [.lit (.bool true)], args := [d] }
  | _ => none }
def fnUnsignedRow : OpenClaim := { program := "ytpjanmahbimhkaa", sum := "c46503ce068ff70b4b2e1e284475395ddcc764c36e8f624db810bb398580ba81", func := "loop.example/pub-softwarefloats/laws.FnUnsigned", spec := "fnUnsigned", apart := false }
def FnUnsignedSaid : Prop := fnUnsignedRow.holds Try.pinned (OpenSpec.ofChange fnUnsignedSpec)

/-- ITS FALSE NEIGHBOUR: 'it returns false'. Refute it at one input. -/
def fnUnsignedWrong : ChangeSpec := { name := "fnUnsigned", fn := fun _ => fun
  | [d] => { results := [.lit (.bool false)], args := [d] }
  | _ => none }
def FnUnsignedWrongFalsely : Prop := fnUnsignedRow.holds Try.pinned (OpenSpec.ofChange fnUnsignedWrong)

/-- 'laws.FnNegInt': WHATEVER THE INPUT: true; the input reads as it did. -/
def fnNegIntSpec : ChangeSpec := { name := "fnNegInt", fn := fun _ => fun
  | [d] => { results := [.lit (.bool true)], args := [d] }
  | _ => none }
def fnNegIntRow : OpenClaim := { program := "ytpjanmahbimhkaa", sum := "c46503ce068ff70b4b2e1e284475395ddcc764c36e8f624db810bb398580ba81", func := "loop.example/pub-softwarefloats/laws.FnNegInt", spec := "fnNegInt", apart := false }
def FnNegIntSaid : Prop := fnNegIntRow.holds Try.pinned (OpenSpec.ofChange fnNegIntSpec)

/-- ITS FALSE NEIGHBOUR: 'it returns false'. Refute it at one input. -/
def fnNegIntWrong : ChangeSpec := { name := "fnNegInt", fn := fun _ => fun
  | [d] => { results := [.lit (.bool false)], args := [d] }
  | _ => none }
def FnNegIntWrongFalsely : Prop := fnNegIntRow.holds Try.pinned (OpenSpec.ofChange fnNegIntWrong)

/-- 'laws.FnScale': WHATEVER THE INPUT: true; the input reads as it did. -/
def fnScaleSpec : ChangeSpec := { name := "fnScale", fn := fun _ => fun
  | [d1, d2] => { results := [.lit (.bool true)], args := [d1, d2] }
  | _ => none }
def fnScaleRow : OpenClaim := { program := "ytpjanmahbimhkaa", sum := "c46503ce068ff70b4b2e1e284475395ddcc764c36e8f624db810bb398580ba81", func := "loop.example/pub-softwarefloats/laws.FnScale", spec := "fnScale", apart := false }
def FnScaleSaid : Prop := fnScaleRow.holds Try.pinned (OpenSpec.ofChange fnScaleSpec)

/-- ITS FALSE NEIGHBOUR: 'it returns false'. Refute it at one input. -/
def fnScaleWrong : ChangeSpec := { name := "fnScale", fn := fun _ => fun
  | [d1, d2] => { results := [.lit (.bool false)], args := [d1, d2] }
  | _ => none }
def FnScaleWrongFalsely : Prop := fnScaleRow.holds Try.pinned (OpenSpec.ofChange fnScaleWrong)

/-- 'laws.FnExactUnpack32': WHATEVER THE INPUT: true; the input reads as it did. -/
def fnExactUnpack32Spec : ChangeSpec := { name := "fnExactUnpack32", fn := fun _ => fun
  | [d] => { results := [.lit (.bool true)], args := [d] }
  | _ => none }
def fnExactUnpack32Row : OpenClaim := { program := "ytpjanmahbimhkaa", sum := "c46503ce068ff70b4b2e1e284475395ddcc764c36e8f624db810bb398580ba81", func := "loop.example/pub-softwarefloats/laws.FnExactUnpack32", spec := "fnExactUnpack32", apart := false }
def FnExactUnpack32Said : Prop := fnExactUnpack32Row.holds Try.pinned (OpenSpec.ofChange fnExactUnpack32Spec)

/-- ITS FALSE NEIGHBOUR: 'it returns false'. Refute it at one input. -/
def fnExactUnpack32Wrong : ChangeSpec := { name := "fnExactUnpack32", fn := fun _ => fun
  | [d] => { results := [.lit (.bool false)], args := [d] }
  | _ => none }
def FnExactUnpack32WrongFalsely : Prop := fnExactUnpack32Row.holds Try.pinned (OpenSpec.ofChange fnExactUnpack32Wrong)

/-- 'laws.FnExactUnpack64': WHATEVER THE INPUT: true; the input reads as it did. -/
def fnExactUnpack64Spec : ChangeSpec := { name := "fnExactUnpack64", fn := fun _ => fun
  | [d] => { results := [.lit (.bool true)], args := [d] }
  | _ => none }
def fnExactUnpack64Row : OpenClaim := { program := "ytpjanmahbimhkaa", sum := "c46503ce068ff70b4b2e1e284475395ddcc764c36e8f624db810bb398580ba81", func := "loop.example/pub-softwarefloats/laws.FnExactUnpack64", spec := "fnExactUnpack64", apart := false }
def FnExactUnpack64Said : Prop := fnExactUnpack64Row.holds Try.pinned (OpenSpec.ofChange fnExactUnpack64Spec)

/-- ITS FALSE NEIGHBOUR: 'it returns false'. Refute it at one input. -/
def fnExactUnpack64Wrong : ChangeSpec := { name := "fnExactUnpack64", fn := fun _ => fun
  | [d] => { results := [.lit (.bool false)], args := [d] }
  | _ => none }
def FnExactUnpack64WrongFalsely : Prop := fnExactUnpack64Row.holds Try.pinned (OpenSpec.ofChange fnExactUnpack64Wrong)

/-- 'laws.FnGo32': WHATEVER THE INPUT: true; the input reads as it did. -/
def fnGo32Spec : ChangeSpec := { name := "fnGo32", fn := fun _ => fun
  | [d1, d2] => { results := [.lit (.bool true)], args := [d1, d2] }
  | _ => none }
def fnGo32Row : OpenClaim := { program := "ytpjanmahbimhkaa", sum := "c46503ce068ff70b4b2e1e284475395ddcc764c36e8f624db810bb398580ba81", func := "loop.example/pub-softwarefloats/laws.FnGo32", spec := "fnGo32", inPlace := ["math.Float32frombits", "math.Float32bits"], apart := false }
def FnGo32Said : Prop := fnGo32Row.holds Try.pinned (OpenSpec.ofChange fnGo32Spec)

/-- ITS FALSE NEIGHBOUR: 'it returns false'. Refute it at one input. -/
def fnGo32Wrong : ChangeSpec := { name := "fnGo32", fn := fun _ => fun
  | [d1, d2] => { results := [.lit (.bool false)], args := [d1, d2] }
  | _ => none }
def FnGo32WrongFalsely : Prop := fnGo32Row.holds Try.pinned (OpenSpec.ofChange fnGo32Wrong)

/-- 'laws.FnGo64': WHATEVER THE INPUT: true; the input reads as it did. -/
def fnGo64Spec : ChangeSpec := { name := "fnGo64", fn := fun _ => fun
  | [d1, d2] => { results := [.lit (.bool true)], args := [d1, d2] }
  | _ => none }
def fnGo64Row : OpenClaim := { program := "ytpjanmahbimhkaa", sum := "c46503ce068ff70b4b2e1e284475395ddcc764c36e8f624db810bb398580ba81", func := "loop.example/pub-softwarefloats/laws.FnGo64", spec := "fnGo64", inPlace := ["math.Float64frombits", "math.Float64bits"], apart := false }
def FnGo64Said : Prop := fnGo64Row.holds Try.pinned (OpenSpec.ofChange fnGo64Spec)

/-- ITS FALSE NEIGHBOUR: 'it returns false'. Refute it at one input. -/
def fnGo64Wrong : ChangeSpec := { name := "fnGo64", fn := fun _ => fun
  | [d1, d2] => { results := [.lit (.bool false)], args := [d1, d2] }
  | _ => none }
def FnGo64WrongFalsely : Prop := fnGo64Row.holds Try.pinned (OpenSpec.ofChange fnGo64Wrong)

/- THE SECOND FORM. 'bulk': how many values and letters a reading holds, each counted each time it is reached (what is shared counts as often as it is met; a slice's spare places count too). A statement '..UptoSaid' is the law's where the arguments, and the package variables that the reading takes, are together of bulk at most 1048576: NARROWER than '..Said'. Prove '..Said' where nothing that the law and all that it calls make is longer than what came in: it says more and counts as full. Else prove '..UptoSaid'. A law counts once. -/
mutual
def uptoBulk {H : Type} : DataW H → Nat
  | .lit (.string bytes) => bytes.length + 1
  | .lit _ => 1
  | .nil => 1
  | .ptr d => uptoBulk d + 1
  | .slice elems spare => uptoBulkAll elems + uptoBulkAll spare + 1
  | .agg parts => uptoBulkAll parts + 1
  | .iface _ d => uptoBulk d + 1
  | .map entries => uptoBulkEntries entries + 1
  | .held _ => 1
def uptoBulkAll {H : Type} : List (DataW H) → Nat
  | [] => 0
  | d :: r => uptoBulk d + uptoBulkAll r
def uptoBulkEntries {H : Type} : List (Lit × DataW H) → Nat
  | [] => 0
  | x :: r => uptoBulkEntry x + uptoBulkEntries r
def uptoBulkEntry {H : Type} : Lit × DataW H → Nat
  | (.string bytes, d) => bytes.length + uptoBulk d + 1
  | (_, d) => uptoBulk d + 1
 end
def uptoSmall : (H : Type) → List (DataW H) → Bool := fun _ ds => decide (uptoBulkAll ds ≤ 1048576)
def OpenSpec.upto (s : _root_.Go.ChangeSpec) : _root_.Go.OpenSpec := { _root_.Go.OpenSpec.ofChange s with cond := some uptoSmall }

/-- 'laws.FnIntBack', WHERE WHAT IT READS IS OF BULK AT MOST 1048576: true; the input reads as it did. -/
def fnIntBackUptoRow : OpenClaim := { program := "ytpjanmahbimhkaa", sum := "c46503ce068ff70b4b2e1e284475395ddcc764c36e8f624db810bb398580ba81", func := "loop.example/pub-softwarefloats/laws.FnIntBack", spec := "fnIntBack", apart := false, narrowed := true }
def FnIntBackUptoSaid : Prop := fnIntBackUptoRow.holds Try.pinned (OpenSpec.upto fnIntBackSpec)

/-- 'laws.FnInt32Back', WHERE WHAT IT READS IS OF BULK AT MOST 1048576: true; the input reads as it did. -/
def fnInt32BackUptoRow : OpenClaim := { program := "ytpjanmahbimhkaa", sum := "c46503ce068ff70b4b2e1e284475395ddcc764c36e8f624db810bb398580ba81", func := "loop.example/pub-softwarefloats/laws.FnInt32Back", spec := "fnInt32Back", apart := false, narrowed := true }
def FnInt32BackUptoSaid : Prop := fnInt32BackUptoRow.holds Try.pinned (OpenSpec.upto fnInt32BackSpec)

/-- 'laws.FnIntSums', WHERE WHAT IT READS IS OF BULK AT MOST 1048576: true; the input reads as it did. -/
def fnIntSumsUptoRow : OpenClaim := { program := "ytpjanmahbimhkaa", sum := "c46503ce068ff70b4b2e1e284475395ddcc764c36e8f624db810bb398580ba81", func := "loop.example/pub-softwarefloats/laws.FnIntSums", spec := "fnIntSums", apart := false, narrowed := true }
def FnIntSumsUptoSaid : Prop := fnIntSumsUptoRow.holds Try.pinned (OpenSpec.upto fnIntSumsSpec)

/-- 'laws.FnIntQuotients', WHERE WHAT IT READS IS OF BULK AT MOST 1048576: true; the input reads as it did. -/
def fnIntQuotientsUptoRow : OpenClaim := { program := "ytpjanmahbimhkaa", sum := "c46503ce068ff70b4b2e1e284475395ddcc764c36e8f624db810bb398580ba81", func := "loop.example/pub-softwarefloats/laws.FnIntQuotients", spec := "fnIntQuotients", apart := false, narrowed := true }
def FnIntQuotientsUptoSaid : Prop := fnIntQuotientsUptoRow.holds Try.pinned (OpenSpec.upto fnIntQuotientsSpec)

/-- 'laws.FnUnsigned', WHERE WHAT IT READS IS OF BULK AT MOST 1048576: true; the input reads as it did. -/
def fnUnsignedUptoRow : OpenClaim := { program := "ytpjanmahbimhkaa", sum := "c46503ce068ff70b4b2e1e284475395ddcc764c36e8f624db810bb398580ba81", func := "loop.example/pub-softwarefloats/laws.FnUnsigned", spec := "fnUnsigned", apart := false, narrowed := true }
def FnUnsignedUptoSaid : Prop := fnUnsignedUptoRow.holds Try.pinned (OpenSpec.upto fnUnsignedSpec)

/-- 'laws.FnNegInt', WHERE WHAT IT READS IS OF BULK AT MOST 1048576: true; the input reads as it did. -/
def fnNegIntUptoRow : OpenClaim := { program := "ytpjanmahbimhkaa", sum := "c46503ce068ff70b4b2e1e284475395ddcc764c36e8f624db810bb398580ba81", func := "loop.example/pub-softwarefloats/laws.FnNegInt", spec := "fnNegInt", apart := false, narrowed := true }
def FnNegIntUptoSaid : Prop := fnNegIntUptoRow.holds Try.pinned (OpenSpec.upto fnNegIntSpec)

/-- 'laws.FnScale', WHERE WHAT IT READS IS OF BULK AT MOST 1048576: true; the input reads as it did. -/
def fnScaleUptoRow : OpenClaim := { program := "ytpjanmahbimhkaa", sum := "c46503ce068ff70b4b2e1e284475395ddcc764c36e8f624db810bb398580ba81", func := "loop.example/pub-softwarefloats/laws.FnScale", spec := "fnScale", apart := false, narrowed := true }
def FnScaleUptoSaid : Prop := fnScaleUptoRow.holds Try.pinned (OpenSpec.upto fnScaleSpec)

/-- 'laws.FnExactUnpack32', WHERE WHAT IT READS IS OF BULK AT MOST 1048576: true; the input reads as it did. -/
def fnExactUnpack32UptoRow : OpenClaim := { program := "ytpjanmahbimhkaa", sum := "c46503ce068ff70b4b2e1e284475395ddcc764c36e8f624db810bb398580ba81", func := "loop.example/pub-softwarefloats/laws.FnExactUnpack32", spec := "fnExactUnpack32", apart := false, narrowed := true }
def FnExactUnpack32UptoSaid : Prop := fnExactUnpack32UptoRow.holds Try.pinned (OpenSpec.upto fnExactUnpack32Spec)

/-- 'laws.FnExactUnpack64', WHERE WHAT IT READS IS OF BULK AT MOST 1048576: true; the input reads as it did. -/
def fnExactUnpack64UptoRow : OpenClaim := { program := "ytpjanmahbimhkaa", sum := "c46503ce068ff70b4b2e1e284475395ddcc764c36e8f624db810bb398580ba81", func := "loop.example/pub-softwarefloats/laws.FnExactUnpack64", spec := "fnExactUnpack64", apart := false, narrowed := true }
def FnExactUnpack64UptoSaid : Prop := fnExactUnpack64UptoRow.holds Try.pinned (OpenSpec.upto fnExactUnpack64Spec)

/-- 'laws.FnGo32', WHERE WHAT IT READS IS OF BULK AT MOST 1048576: true; the input reads as it did. -/
def fnGo32UptoRow : OpenClaim := { program := "ytpjanmahbimhkaa", sum := "c46503ce068ff70b4b2e1e284475395ddcc764c36e8f624db810bb398580ba81", func := "loop.example/pub-softwarefloats/laws.FnGo32", spec := "fnGo32", inPlace := ["math.Float32frombits", "math.Float32bits"], apart := false, narrowed := true }
def FnGo32UptoSaid : Prop := fnGo32UptoRow.holds Try.pinned (OpenSpec.upto fnGo32Spec)

/-- 'laws.FnGo64', WHERE WHAT IT READS IS OF BULK AT MOST 1048576: true; the input reads as it did. -/
def fnGo64UptoRow : OpenClaim := { program := "ytpjanmahbimhkaa", sum := "c46503ce068ff70b4b2e1e284475395ddcc764c36e8f624db810bb398580ba81", func := "loop.example/pub-softwarefloats/laws.FnGo64", spec := "fnGo64", inPlace := ["math.Float64frombits", "math.Float64bits"], apart := false, narrowed := true }
def FnGo64UptoSaid : Prop := fnGo64UptoRow.holds Try.pinned (OpenSpec.upto fnGo64Spec)

end Rows
end Go.Proofs.Ytpjanmahbimhkaa
