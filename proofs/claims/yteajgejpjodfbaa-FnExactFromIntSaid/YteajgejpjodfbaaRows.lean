/-
  No cell of these rows narrows 'for every input' (looked for: loops, veiled, ifaces, maps, wideKeys, modest, calm, conditions, laid).
  DERIVED. THE GIVEN ROWS OF THIS SEAT. 12 by the template 'for every input the law returns true; each argument reads behind the call as it read before'; 0 by the template 'total and deterministic' (their statements: YteajgejpjodfbaaTotals.lean).
  GIVEN WITH THE SEED: the statements are not yours to turn. If you find one false, say at which input.
  Laid BY PROGRAM, IN A SANDBOX (cutbox-rows.mjs): the forced cells as the released guide's own fill.sh prints them over the translation 7623cd3b14ad3a2c… (all of the seat's roots in one cut). By AI agents, Wed Nov 11 2026. No macro, syntax, notation, axiom, sorry.
-/
import Derived.Test.YteajgejpjodfbaaChecked
import GoSem.Claim
import GoSem.ClaimJoined
import GoSem.ClaimMapViews
import Derived.JoinedTies
import Derived.KernelRfl
namespace Go.Proofs.Yteajgejpjodfbaa
/- THE CELL 'sum', in the pinned program and in every row, IS THE sha256 OF THE DUMP (.gsa) THAT YteajgejpjodfbaaProg.lean LOADS. Nothing in Lean hashes anything: it is a label: what it is worth is what the hold of that sum in a sandbox is worth. -/
noncomputable def Try.pinned : Pinned := { name := "yteajgejpjodfbaa", sum := "7623cd3b14ad3a2ca422d1ec5a55fcddc27ad0c81c5702d8de50dde0904b9933", checked := Try.checked }
namespace Rows
def none {H : Type} : Left H := { results := [], args := [] }

/-- 'laws.FnExactToInt': WHATEVER THE INPUT: true; the input reads as it did. -/
def fnExactToIntSpec : ChangeSpec := { name := "fnExactToInt", fn := fun _ => fun
  | [d] => { results := [.lit (.bool true)], args := [d] }
  | _ => none }
def fnExactToIntRow : OpenClaim := { program := "yteajgejpjodfbaa", sum := "7623cd3b14ad3a2ca422d1ec5a55fcddc27ad0c81c5702d8de50dde0904b9933", func := "loop.example/pub-softwarefloats/laws.FnExactToInt", spec := "fnExactToInt", apart := false }
def FnExactToIntSaid : Prop := fnExactToIntRow.holds Try.pinned (OpenSpec.ofChange fnExactToIntSpec)

/-- ITS FALSE NEIGHBOUR: 'it returns false'. Refute it at one input. -/
def fnExactToIntWrong : ChangeSpec := { name := "fnExactToInt", fn := fun _ => fun
  | [d] => { results := [.lit (.bool false)], args := [d] }
  | _ => none }
def FnExactToIntWrongFalsely : Prop := fnExactToIntRow.holds Try.pinned (OpenSpec.ofChange fnExactToIntWrong)

/-- 'laws.FnExactToInt32': WHATEVER THE INPUT: true; the input reads as it did. -/
def fnExactToInt32Spec : ChangeSpec := { name := "fnExactToInt32", fn := fun _ => fun
  | [d] => { results := [.lit (.bool true)], args := [d] }
  | _ => none }
def fnExactToInt32Row : OpenClaim := { program := "yteajgejpjodfbaa", sum := "7623cd3b14ad3a2ca422d1ec5a55fcddc27ad0c81c5702d8de50dde0904b9933", func := "loop.example/pub-softwarefloats/laws.FnExactToInt32", spec := "fnExactToInt32", apart := false }
def FnExactToInt32Said : Prop := fnExactToInt32Row.holds Try.pinned (OpenSpec.ofChange fnExactToInt32Spec)

/-- ITS FALSE NEIGHBOUR: 'it returns false'. Refute it at one input. -/
def fnExactToInt32Wrong : ChangeSpec := { name := "fnExactToInt32", fn := fun _ => fun
  | [d] => { results := [.lit (.bool false)], args := [d] }
  | _ => none }
def FnExactToInt32WrongFalsely : Prop := fnExactToInt32Row.holds Try.pinned (OpenSpec.ofChange fnExactToInt32Wrong)

/-- 'laws.FnExactToInt64': WHATEVER THE INPUT: true; the input reads as it did. -/
def fnExactToInt64Spec : ChangeSpec := { name := "fnExactToInt64", fn := fun _ => fun
  | [d] => { results := [.lit (.bool true)], args := [d] }
  | _ => none }
def fnExactToInt64Row : OpenClaim := { program := "yteajgejpjodfbaa", sum := "7623cd3b14ad3a2ca422d1ec5a55fcddc27ad0c81c5702d8de50dde0904b9933", func := "loop.example/pub-softwarefloats/laws.FnExactToInt64", spec := "fnExactToInt64", apart := false }
def FnExactToInt64Said : Prop := fnExactToInt64Row.holds Try.pinned (OpenSpec.ofChange fnExactToInt64Spec)

/-- ITS FALSE NEIGHBOUR: 'it returns false'. Refute it at one input. -/
def fnExactToInt64Wrong : ChangeSpec := { name := "fnExactToInt64", fn := fun _ => fun
  | [d] => { results := [.lit (.bool false)], args := [d] }
  | _ => none }
def FnExactToInt64WrongFalsely : Prop := fnExactToInt64Row.holds Try.pinned (OpenSpec.ofChange fnExactToInt64Wrong)

/-- 'laws.FnMulluDivlu': WHATEVER THE INPUT: true; the input reads as it did. -/
def fnMulluDivluSpec : ChangeSpec := { name := "fnMulluDivlu", fn := fun _ => fun
  | [d1, d2, d3] => { results := [.lit (.bool true)], args := [d1, d2, d3] }
  | _ => none }
def fnMulluDivluRow : OpenClaim := { program := "yteajgejpjodfbaa", sum := "7623cd3b14ad3a2ca422d1ec5a55fcddc27ad0c81c5702d8de50dde0904b9933", func := "loop.example/pub-softwarefloats/laws.FnMulluDivlu", spec := "fnMulluDivlu", apart := false }
def FnMulluDivluSaid : Prop := fnMulluDivluRow.holds Try.pinned (OpenSpec.ofChange fnMulluDivluSpec)

/-- ITS FALSE NEIGHBOUR: 'it returns false'. Refute it at one input. -/
def fnMulluDivluWrong : ChangeSpec := { name := "fnMulluDivlu", fn := fun _ => fun
  | [d1, d2, d3] => { results := [.lit (.bool false)], args := [d1, d2, d3] }
  | _ => none }
def FnMulluDivluWrongFalsely : Prop := fnMulluDivluRow.holds Try.pinned (OpenSpec.ofChange fnMulluDivluWrong)

/-- 'laws.FnExactFromInt': WHATEVER THE INPUT: true; the input reads as it did. -/
def fnExactFromIntSpec : ChangeSpec := { name := "fnExactFromInt", fn := fun _ => fun
  | [d] => { results := [.lit (.bool true)], args := [d] }
  | _ => none }
def fnExactFromIntRow : OpenClaim := { program := "yteajgejpjodfbaa", sum := "7623cd3b14ad3a2ca422d1ec5a55fcddc27ad0c81c5702d8de50dde0904b9933", func := "loop.example/pub-softwarefloats/laws.FnExactFromInt", spec := "fnExactFromInt", apart := false }
def FnExactFromIntSaid : Prop := fnExactFromIntRow.holds Try.pinned (OpenSpec.ofChange fnExactFromIntSpec)

/-- ITS FALSE NEIGHBOUR: 'it returns false'. Refute it at one input. -/
def fnExactFromIntWrong : ChangeSpec := { name := "fnExactFromInt", fn := fun _ => fun
  | [d] => { results := [.lit (.bool false)], args := [d] }
  | _ => none }
def FnExactFromIntWrongFalsely : Prop := fnExactFromIntRow.holds Try.pinned (OpenSpec.ofChange fnExactFromIntWrong)

/-- 'laws.FnTwoRoads': WHATEVER THE INPUT: true; the input reads as it did. -/
def fnTwoRoadsSpec : ChangeSpec := { name := "fnTwoRoads", fn := fun _ => fun
  | [d1, d2] => { results := [.lit (.bool true)], args := [d1, d2] }
  | _ => none }
def fnTwoRoadsRow : OpenClaim := { program := "yteajgejpjodfbaa", sum := "7623cd3b14ad3a2ca422d1ec5a55fcddc27ad0c81c5702d8de50dde0904b9933", func := "loop.example/pub-softwarefloats/laws.FnTwoRoads", spec := "fnTwoRoads", apart := false }
def FnTwoRoadsSaid : Prop := fnTwoRoadsRow.holds Try.pinned (OpenSpec.ofChange fnTwoRoadsSpec)

/-- ITS FALSE NEIGHBOUR: 'it returns false'. Refute it at one input. -/
def fnTwoRoadsWrong : ChangeSpec := { name := "fnTwoRoads", fn := fun _ => fun
  | [d1, d2] => { results := [.lit (.bool false)], args := [d1, d2] }
  | _ => none }
def FnTwoRoadsWrongFalsely : Prop := fnTwoRoadsRow.holds Try.pinned (OpenSpec.ofChange fnTwoRoadsWrong)

/-- 'laws.FnExactFromIntTo32': WHATEVER THE INPUT: true; the input reads as it did. -/
def fnExactFromIntTo32Spec : ChangeSpec := { name := "fnExactFromIntTo32", fn := fun _ => fun
  | [d] => { results := [.lit (.bool true)], args := [d] }
  | _ => none }
def fnExactFromIntTo32Row : OpenClaim := { program := "yteajgejpjodfbaa", sum := "7623cd3b14ad3a2ca422d1ec5a55fcddc27ad0c81c5702d8de50dde0904b9933", func := "loop.example/pub-softwarefloats/laws.FnExactFromIntTo32", spec := "fnExactFromIntTo32", apart := false }
def FnExactFromIntTo32Said : Prop := fnExactFromIntTo32Row.holds Try.pinned (OpenSpec.ofChange fnExactFromIntTo32Spec)

/-- ITS FALSE NEIGHBOUR: 'it returns false'. Refute it at one input. -/
def fnExactFromIntTo32Wrong : ChangeSpec := { name := "fnExactFromIntTo32", fn := fun _ => fun
  | [d] => { results := [.lit (.bool false)], args := [d] }
  | _ => none }
def FnExactFromIntTo32WrongFalsely : Prop := fnExactFromIntTo32Row.holds Try.pinned (OpenSpec.ofChange fnExactFromIntTo32Wrong)

/-- 'laws.FnExactOrder64': WHATEVER THE INPUT: true; the input reads as it did. -/
def fnExactOrder64Spec : ChangeSpec := { name := "fnExactOrder64", fn := fun _ => fun
  | [d1, d2] => { results := [.lit (.bool true)], args := [d1, d2] }
  | _ => none }
def fnExactOrder64Row : OpenClaim := { program := "yteajgejpjodfbaa", sum := "7623cd3b14ad3a2ca422d1ec5a55fcddc27ad0c81c5702d8de50dde0904b9933", func := "loop.example/pub-softwarefloats/laws.FnExactOrder64", spec := "fnExactOrder64", apart := false }
def FnExactOrder64Said : Prop := fnExactOrder64Row.holds Try.pinned (OpenSpec.ofChange fnExactOrder64Spec)

/-- ITS FALSE NEIGHBOUR: 'it returns false'. Refute it at one input. -/
def fnExactOrder64Wrong : ChangeSpec := { name := "fnExactOrder64", fn := fun _ => fun
  | [d1, d2] => { results := [.lit (.bool false)], args := [d1, d2] }
  | _ => none }
def FnExactOrder64WrongFalsely : Prop := fnExactOrder64Row.holds Try.pinned (OpenSpec.ofChange fnExactOrder64Wrong)

/-- 'laws.FnUnpackPack32': WHATEVER THE INPUT: true; the input reads as it did. -/
def fnUnpackPack32Spec : ChangeSpec := { name := "fnUnpackPack32", fn := fun _ => fun
  | [d] => { results := [.lit (.bool true)], args := [d] }
  | _ => none }
def fnUnpackPack32Row : OpenClaim := { program := "yteajgejpjodfbaa", sum := "7623cd3b14ad3a2ca422d1ec5a55fcddc27ad0c81c5702d8de50dde0904b9933", func := "loop.example/pub-softwarefloats/laws.FnUnpackPack32", spec := "fnUnpackPack32", apart := false }
def FnUnpackPack32Said : Prop := fnUnpackPack32Row.holds Try.pinned (OpenSpec.ofChange fnUnpackPack32Spec)

/-- ITS FALSE NEIGHBOUR: 'it returns false'. Refute it at one input. -/
def fnUnpackPack32Wrong : ChangeSpec := { name := "fnUnpackPack32", fn := fun _ => fun
  | [d] => { results := [.lit (.bool false)], args := [d] }
  | _ => none }
def FnUnpackPack32WrongFalsely : Prop := fnUnpackPack32Row.holds Try.pinned (OpenSpec.ofChange fnUnpackPack32Wrong)

/-- 'laws.FnOrderRoads': WHATEVER THE INPUT: true; the input reads as it did. -/
def fnOrderRoadsSpec : ChangeSpec := { name := "fnOrderRoads", fn := fun _ => fun
  | [d1, d2] => { results := [.lit (.bool true)], args := [d1, d2] }
  | _ => none }
def fnOrderRoadsRow : OpenClaim := { program := "yteajgejpjodfbaa", sum := "7623cd3b14ad3a2ca422d1ec5a55fcddc27ad0c81c5702d8de50dde0904b9933", func := "loop.example/pub-softwarefloats/laws.FnOrderRoads", spec := "fnOrderRoads", apart := false }
def FnOrderRoadsSaid : Prop := fnOrderRoadsRow.holds Try.pinned (OpenSpec.ofChange fnOrderRoadsSpec)

/-- ITS FALSE NEIGHBOUR: 'it returns false'. Refute it at one input. -/
def fnOrderRoadsWrong : ChangeSpec := { name := "fnOrderRoads", fn := fun _ => fun
  | [d1, d2] => { results := [.lit (.bool false)], args := [d1, d2] }
  | _ => none }
def FnOrderRoadsWrongFalsely : Prop := fnOrderRoadsRow.holds Try.pinned (OpenSpec.ofChange fnOrderRoadsWrong)

/-- 'laws.FnUnpackPack64': WHATEVER THE INPUT: true; the input reads as it did. -/
def fnUnpackPack64Spec : ChangeSpec := { name := "fnUnpackPack64", fn := fun _ => fun
  | [d] => { results := [.lit (.bool true)], args := [d] }
  | _ => none }
def fnUnpackPack64Row : OpenClaim := { program := "yteajgejpjodfbaa", sum := "7623cd3b14ad3a2ca422d1ec5a55fcddc27ad0c81c5702d8de50dde0904b9933", func := "loop.example/pub-softwarefloats/laws.FnUnpackPack64", spec := "fnUnpackPack64", apart := false }
def FnUnpackPack64Said : Prop := fnUnpackPack64Row.holds Try.pinned (OpenSpec.ofChange fnUnpackPack64Spec)

/-- ITS FALSE NEIGHBOUR: 'it returns false'. Refute it at one input. -/
def fnUnpackPack64Wrong : ChangeSpec := { name := "fnUnpackPack64", fn := fun _ => fun
  | [d] => { results := [.lit (.bool false)], args := [d] }
  | _ => none }
def FnUnpackPack64WrongFalsely : Prop := fnUnpackPack64Row.holds Try.pinned (OpenSpec.ofChange fnUnpackPack64Wrong)

/-- 'laws.FnExactNarrow': WHATEVER THE INPUT: true; the input reads as it did. -/
def fnExactNarrowSpec : ChangeSpec := { name := "fnExactNarrow", fn := fun _ => fun
  | [d] => { results := [.lit (.bool true)], args := [d] }
  | _ => none }
def fnExactNarrowRow : OpenClaim := { program := "yteajgejpjodfbaa", sum := "7623cd3b14ad3a2ca422d1ec5a55fcddc27ad0c81c5702d8de50dde0904b9933", func := "loop.example/pub-softwarefloats/laws.FnExactNarrow", spec := "fnExactNarrow", apart := false }
def FnExactNarrowSaid : Prop := fnExactNarrowRow.holds Try.pinned (OpenSpec.ofChange fnExactNarrowSpec)

/-- ITS FALSE NEIGHBOUR: 'it returns false'. Refute it at one input. -/
def fnExactNarrowWrong : ChangeSpec := { name := "fnExactNarrow", fn := fun _ => fun
  | [d] => { results := [.lit (.bool false)], args := [d] }
  | _ => none }
def FnExactNarrowWrongFalsely : Prop := fnExactNarrowRow.holds Try.pinned (OpenSpec.ofChange fnExactNarrowWrong)

/- THE SECOND FORM. 'bulk': how many values and letters a reading holds, each counted each time it is reached (what is shared counts as often as it is met; a slice's spare places count too). A statement '..UptoSaid' is the law's where the arguments, and the package variables that the reading takes, are together of bulk at most 1048576: NARROWER than '..Said'. Prove '..Said' where nothing that the law and all that it calls make is longer than what came in: it says more and counts as full. Else prove '..UptoSaid'. A law counts once. -/
mutual
def uptoBulk {H : Type} : DataW H → Nat
  | .lit (.string bytes) => bytes.length + 1
  | .lit _ => 1
  | .nil => 1
  | .ptr d => uptoBulk d + 1
  | .slice elems spare => uptoBulkAll elems + uptoBulkAll spare + 1
  | .agg parts => uptoBulkAll parts + 1
  | .iface _ d => uptoBulk d + 1
  | .map entries => uptoBulkEntries entries + 1
  | .held _ => 1
def uptoBulkAll {H : Type} : List (DataW H) → Nat
  | [] => 0
  | d :: r => uptoBulk d + uptoBulkAll r
def uptoBulkEntries {H : Type} : List (Lit × DataW H) → Nat
  | [] => 0
  | x :: r => uptoBulkEntry x + uptoBulkEntries r
def uptoBulkEntry {H : Type} : Lit × DataW H → Nat
  | (.string bytes, d) => bytes.length + uptoBulk d + 1
  | (_, d) => uptoBulk d + 1
 end
def uptoSmall : (H : Type) → List (DataW H) → Bool := fun _ ds => decide (uptoBulkAll ds ≤ 1048576)
def OpenSpec.upto (s : _root_.Go.ChangeSpec) : _root_.Go.OpenSpec := { _root_.Go.OpenSpec.ofChange s with cond := some uptoSmall }

/-- 'laws.FnExactToInt', WHERE WHAT IT READS IS OF BULK AT MOST 1048576: true; the input reads as it did. -/
def fnExactToIntUptoRow : OpenClaim := { program := "yteajgejpjodfbaa", sum := "7623cd3b14ad3a2ca422d1ec5a55fcddc27ad0c81c5702d8de50dde0904b9933", func := "loop.example/pub-softwarefloats/laws.FnExactToInt", spec := "fnExactToInt", apart := false, narrowed := true }
def FnExactToIntUptoSaid : Prop := fnExactToIntUptoRow.holds Try.pinned (OpenSpec.upto fnExactToIntSpec)

/-- 'laws.FnExactToInt32', WHERE WHAT IT READS IS OF BULK AT MOST 1048576: true; the input reads as it did. -/
def fnExactToInt32UptoRow : OpenClaim := { program := "yteajgejpjodfbaa", sum := "7623cd3b14ad3a2ca422d1ec5a55fcddc27ad0c81c5702d8de50dde0904b9933", func := "loop.example/pub-softwarefloats/laws.FnExactToInt32", spec := "fnExactToInt32", apart := false, narrowed := true }
def FnExactToInt32UptoSaid : Prop := fnExactToInt32UptoRow.holds Try.pinned (OpenSpec.upto fnExactToInt32Spec)

/-- 'laws.FnExactToInt64', WHERE WHAT IT READS IS OF BULK AT MOST 1048576: true; the input reads as it did. -/
def fnExactToInt64UptoRow : OpenClaim := { program := "yteajgejpjodfbaa", sum := "7623cd3b14ad3a2ca422d1ec5a55fcddc27ad0c81c5702d8de50dde0904b9933", func := "loop.example/pub-softwarefloats/laws.FnExactToInt64", spec := "fnExactToInt64", apart := false, narrowed := true }
def FnExactToInt64UptoSaid : Prop := fnExactToInt64UptoRow.holds Try.pinned (OpenSpec.upto fnExactToInt64Spec)

/-- 'laws.FnMulluDivlu', WHERE WHAT IT READS IS OF BULK AT MOST 1048576: true; the input reads as it did. -/
def fnMulluDivluUptoRow : OpenClaim := { program := "yteajgejpjodfbaa", sum := "7623cd3b14ad3a2ca422d1ec5a55fcddc27ad0c81c5702d8de50dde0904b9933", func := "loop.example/pub-softwarefloats/laws.FnMulluDivlu", spec := "fnMulluDivlu", apart := false, narrowed := true }
def FnMulluDivluUptoSaid : Prop := fnMulluDivluUptoRow.holds Try.pinned (OpenSpec.upto fnMulluDivluSpec)

/-- 'laws.FnExactFromInt', WHERE WHAT IT READS IS OF BULK AT MOST 1048576: true; the input reads as it did. -/
def fnExactFromIntUptoRow : OpenClaim := { program := "yteajgejpjodfbaa", sum := "7623cd3b14ad3a2ca422d1ec5a55fcddc27ad0c81c5702d8de50dde0904b9933", func := "loop.example/pub-softwarefloats/laws.FnExactFromInt", spec := "fnExactFromInt", apart := false, narrowed := true }
def FnExactFromIntUptoSaid : Prop := fnExactFromIntUptoRow.holds Try.pinned (OpenSpec.upto fnExactFromIntSpec)

/-- 'laws.FnTwoRoads', WHERE WHAT IT READS IS OF BULK AT MOST 1048576: true; the input reads as it did. -/
def fnTwoRoadsUptoRow : OpenClaim := { program := "yteajgejpjodfbaa", sum := "7623cd3b14ad3a2ca422d1ec5a55fcddc27ad0c81c5702d8de50dde0904b9933", func := "loop.example/pub-softwarefloats/laws.FnTwoRoads", spec := "fnTwoRoads", apart := false, narrowed := true }
def FnTwoRoadsUptoSaid : Prop := fnTwoRoadsUptoRow.holds Try.pinned (OpenSpec.upto fnTwoRoadsSpec)

/-- 'laws.FnExactFromIntTo32', WHERE WHAT IT READS IS OF BULK AT MOST 1048576: true; the input reads as it did. -/
def fnExactFromIntTo32UptoRow : OpenClaim := { program := "yteajgejpjodfbaa", sum := "7623cd3b14ad3a2ca422d1ec5a55fcddc27ad0c81c5702d8de50dde0904b9933", func := "loop.example/pub-softwarefloats/laws.FnExactFromIntTo32", spec := "fnExactFromIntTo32", apart := false, narrowed := true }
def FnExactFromIntTo32UptoSaid : Prop := fnExactFromIntTo32UptoRow.holds Try.pinned (OpenSpec.upto fnExactFromIntTo32Spec)

/-- 'laws.FnExactOrder64', WHERE WHAT IT READS IS OF BULK AT MOST 1048576: true; the input reads as it did. -/
def fnExactOrder64UptoRow : OpenClaim := { program := "yteajgejpjodfbaa", sum := "7623cd3b14ad3a2ca422d1ec5a55fcddc27ad0c81c5702d8de50dde0904b9933", func := "loop.example/pub-softwarefloats/laws.FnExactOrder64", spec := "fnExactOrder64", apart := false, narrowed := true }
def FnExactOrder64UptoSaid : Prop := fnExactOrder64UptoRow.holds Try.pinned (OpenSpec.upto fnExactOrder64Spec)

/-- 'laws.FnUnpackPack32', WHERE WHAT IT READS IS OF BULK AT MOST 1048576: true; the input reads as it did. -/
def fnUnpackPack32UptoRow : OpenClaim := { program := "yteajgejpjodfbaa", sum := "7623cd3b14ad3a2ca422d1ec5a55fcddc27ad0c81c5702d8de50dde0904b9933", func := "loop.example/pub-softwarefloats/laws.FnUnpackPack32", spec := "fnUnpackPack32", apart := false, narrowed := true }
def FnUnpackPack32UptoSaid : Prop := fnUnpackPack32UptoRow.holds Try.pinned (OpenSpec.upto fnUnpackPack32Spec)

/-- 'laws.FnOrderRoads', WHERE WHAT IT READS IS OF BULK AT MOST 1048576: true; the input reads as it did. -/
def fnOrderRoadsUptoRow : OpenClaim := { program := "yteajgejpjodfbaa", sum := "7623cd3b14ad3a2ca422d1ec5a55fcddc27ad0c81c5702d8de50dde0904b9933", func := "loop.example/pub-softwarefloats/laws.FnOrderRoads", spec := "fnOrderRoads", apart := false, narrowed := true }
def FnOrderRoadsUptoSaid : Prop := fnOrderRoadsUptoRow.holds Try.pinned (OpenSpec.upto fnOrderRoadsSpec)

/-- 'laws.FnUnpackPack64', WHERE WHAT IT READS IS OF BULK AT MOST 1048576: true; the input reads as it did. -/
def fnUnpackPack64UptoRow : OpenClaim := { program := "yteajgejpjodfbaa", sum := "7623cd3b14ad3a2ca422d1ec5a55fcddc27ad0c81c5702d8de50dde0904b9933", func := "loop.example/pub-softwarefloats/laws.FnUnpackPack64", spec := "fnUnpackPack64", apart := false, narrowed := true }
def FnUnpackPack64UptoSaid : Prop := fnUnpackPack64UptoRow.holds Try.pinned (OpenSpec.upto fnUnpackPack64Spec)

/-- 'laws.FnExactNarrow', WHERE WHAT IT READS IS OF BULK AT MOST 1048576: true; the input reads as it did. -/
def fnExactNarrowUptoRow : OpenClaim := { program := "yteajgejpjodfbaa", sum := "7623cd3b14ad3a2ca422d1ec5a55fcddc27ad0c81c5702d8de50dde0904b9933", func := "loop.example/pub-softwarefloats/laws.FnExactNarrow", spec := "fnExactNarrow", apart := false, narrowed := true }
def FnExactNarrowUptoSaid : Prop := fnExactNarrowUptoRow.holds Try.pinned (OpenSpec.upto fnExactNarrowSpec)

end Rows
end Go.Proofs.Yteajgejpjodfbaa
