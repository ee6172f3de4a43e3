/-
  No cell of these rows narrows 'for every input' (looked for: loops, veiled, ifaces, maps, wideKeys, modest, calm, conditions, laid).
  DERIVED. THE GIVEN ROWS OF THIS SEAT. 12 by the template 'for every input the law returns true; each argument reads behind the call as it read before'; 0 by the template 'total and deterministic' (their statements: YtflldcfgiphggaaTotals.lean).
  GIVEN WITH THE SEED: the statements are not yours to turn. If you find one false, say at which input.
  Laid BY PROGRAM, IN A SANDBOX (cutbox-rows.mjs): the forced cells as the released guide's own fill.sh prints them over the translation 37633ede82dd766e… (all of the seat's roots in one cut). By AI agents, Wed Nov 11 2026. No macro, syntax, notation, axiom, sorry.
-/
import Derived.Test.YtflldcfgiphggaaChecked
import GoSem.Claim
import GoSem.ClaimJoined
import GoSem.ClaimMapViews
import Derived.JoinedTies
import Derived.KernelRfl
namespace Go.Proofs.Ytflldcfgiphggaa
/- THE CELL 'sum', in the pinned program and in every row, IS THE sha256 OF THE DUMP (.gsa) THAT YtflldcfgiphggaaProg.lean LOADS. Nothing in Lean hashes anything: it is a label: what it is worth is what the hold of that sum in a sandbox is worth. -/
noncomputable def Try.pinned : Pinned := { name := "ytflldcfgiphggaa", sum := "37633ede82dd766edc6bf2948bb74cb80aec610bc233eef312598f66522d1dc6", checked := Try.checked }
namespace Rows
def none {H : Type} : Left H := { results := [], args := [] }

/-- 'laws.FnExactDecodeBool': WHATEVER THE INPUT: true; the input reads as it did. -/
def fnExactDecodeBoolSpec : ChangeSpec := { name := "fnExactDecodeBool", fn := fun _ => fun
  | [d] => { results := [.lit (.bool true)], args := [d] }
  | _ => none }
def fnExactDecodeBoolRow : OpenClaim := { program := "ytflldcfgiphggaa", sum := "37633ede82dd766edc6bf2948bb74cb80aec610bc233eef312598f66522d1dc6", func := "loop.example/pub-wirefields/laws.FnExactDecodeBool", spec := "fnExactDecodeBool", apart := false }
def FnExactDecodeBoolSaid : Prop := fnExactDecodeBoolRow.holds Try.pinned (OpenSpec.ofChange fnExactDecodeBoolSpec)

/-- ITS FALSE NEIGHBOUR: 'it returns false'. Refute it at one input. -/
def fnExactDecodeBoolWrong : ChangeSpec := { name := "fnExactDecodeBool", fn := fun _ => fun
  | [d] => { results := [.lit (.bool false)], args := [d] }
  | _ => none }
def FnExactDecodeBoolWrongFalsely : Prop := fnExactDecodeBoolRow.holds Try.pinned (OpenSpec.ofChange fnExactDecodeBoolWrong)

/-- 'laws.FnExactDecodeZigZag': WHATEVER THE INPUT: true; the input reads as it did. -/
def fnExactDecodeZigZagSpec : ChangeSpec := { name := "fnExactDecodeZigZag", fn := fun _ => fun
  | [d] => { results := [.lit (.bool true)], args := [d] }
  | _ => none }
def fnExactDecodeZigZagRow : OpenClaim := { program := "ytflldcfgiphggaa", sum := "37633ede82dd766edc6bf2948bb74cb80aec610bc233eef312598f66522d1dc6", func := "loop.example/pub-wirefields/laws.FnExactDecodeZigZag", spec := "fnExactDecodeZigZag", apart := false }
def FnExactDecodeZigZagSaid : Prop := fnExactDecodeZigZagRow.holds Try.pinned (OpenSpec.ofChange fnExactDecodeZigZagSpec)

/-- ITS FALSE NEIGHBOUR: 'it returns false'. Refute it at one input. -/
def fnExactDecodeZigZagWrong : ChangeSpec := { name := "fnExactDecodeZigZag", fn := fun _ => fun
  | [d] => { results := [.lit (.bool false)], args := [d] }
  | _ => none }
def FnExactDecodeZigZagWrongFalsely : Prop := fnExactDecodeZigZagRow.holds Try.pinned (OpenSpec.ofChange fnExactDecodeZigZagWrong)

/-- 'laws.FnExactEncodeTag': WHATEVER THE INPUT: true; the input reads as it did. -/
def fnExactEncodeTagSpec : ChangeSpec := { name := "fnExactEncodeTag", fn := fun _ => fun
  | [d1, d2] => { results := [.lit (.bool true)], args := [d1, d2] }
  | _ => none }
def fnExactEncodeTagRow : OpenClaim := { program := "ytflldcfgiphggaa", sum := "37633ede82dd766edc6bf2948bb74cb80aec610bc233eef312598f66522d1dc6", func := "loop.example/pub-wirefields/laws.FnExactEncodeTag", spec := "fnExactEncodeTag", apart := false }
def FnExactEncodeTagSaid : Prop := fnExactEncodeTagRow.holds Try.pinned (OpenSpec.ofChange fnExactEncodeTagSpec)

/-- ITS FALSE NEIGHBOUR: 'it returns false'. Refute it at one input. -/
def fnExactEncodeTagWrong : ChangeSpec := { name := "fnExactEncodeTag", fn := fun _ => fun
  | [d1, d2] => { results := [.lit (.bool false)], args := [d1, d2] }
  | _ => none }
def FnExactEncodeTagWrongFalsely : Prop := fnExactEncodeTagRow.holds Try.pinned (OpenSpec.ofChange fnExactEncodeTagWrong)

/-- 'laws.FnExactEncodeZigZag': WHATEVER THE INPUT: true; the input reads as it did. -/
def fnExactEncodeZigZagSpec : ChangeSpec := { name := "fnExactEncodeZigZag", fn := fun _ => fun
  | [d] => { results := [.lit (.bool true)], args := [d] }
  | _ => none }
def fnExactEncodeZigZagRow : OpenClaim := { program := "ytflldcfgiphggaa", sum := "37633ede82dd766edc6bf2948bb74cb80aec610bc233eef312598f66522d1dc6", func := "loop.example/pub-wirefields/laws.FnExactEncodeZigZag", spec := "fnExactEncodeZigZag", apart := false }
def FnExactEncodeZigZagSaid : Prop := fnExactEncodeZigZagRow.holds Try.pinned (OpenSpec.ofChange fnExactEncodeZigZagSpec)

/-- ITS FALSE NEIGHBOUR: 'it returns false'. Refute it at one input. -/
def fnExactEncodeZigZagWrong : ChangeSpec := { name := "fnExactEncodeZigZag", fn := fun _ => fun
  | [d] => { results := [.lit (.bool false)], args := [d] }
  | _ => none }
def FnExactEncodeZigZagWrongFalsely : Prop := fnExactEncodeZigZagRow.holds Try.pinned (OpenSpec.ofChange fnExactEncodeZigZagWrong)

/-- 'laws.FnExactIsValid': WHATEVER THE INPUT: true; the input reads as it did. -/
def fnExactIsValidSpec : ChangeSpec := { name := "fnExactIsValid", fn := fun _ => fun
  | [d] => { results := [.lit (.bool true)], args := [d] }
  | _ => none }
def fnExactIsValidRow : OpenClaim := { program := "ytflldcfgiphggaa", sum := "37633ede82dd766edc6bf2948bb74cb80aec610bc233eef312598f66522d1dc6", func := "loop.example/pub-wirefields/laws.FnExactIsValid", spec := "fnExactIsValid", apart := false }
def FnExactIsValidSaid : Prop := fnExactIsValidRow.holds Try.pinned (OpenSpec.ofChange fnExactIsValidSpec)

/-- ITS FALSE NEIGHBOUR: 'it returns false'. Refute it at one input. -/
def fnExactIsValidWrong : ChangeSpec := { name := "fnExactIsValid", fn := fun _ => fun
  | [d] => { results := [.lit (.bool false)], args := [d] }
  | _ => none }
def FnExactIsValidWrongFalsely : Prop := fnExactIsValidRow.holds Try.pinned (OpenSpec.ofChange fnExactIsValidWrong)

/-- 'laws.FnZigZagNear': WHATEVER THE INPUT: true; the input reads as it did. -/
def fnZigZagNearSpec : ChangeSpec := { name := "fnZigZagNear", fn := fun _ => fun
  | [d1, d2] => { results := [.lit (.bool true)], args := [d1, d2] }
  | _ => none }
def fnZigZagNearRow : OpenClaim := { program := "ytflldcfgiphggaa", sum := "37633ede82dd766edc6bf2948bb74cb80aec610bc233eef312598f66522d1dc6", func := "loop.example/pub-wirefields/laws.FnZigZagNear", spec := "fnZigZagNear", apart := false }
def FnZigZagNearSaid : Prop := fnZigZagNearRow.holds Try.pinned (OpenSpec.ofChange fnZigZagNearSpec)

/-- ITS FALSE NEIGHBOUR: 'it returns false'. Refute it at one input. -/
def fnZigZagNearWrong : ChangeSpec := { name := "fnZigZagNear", fn := fun _ => fun
  | [d1, d2] => { results := [.lit (.bool false)], args := [d1, d2] }
  | _ => none }
def FnZigZagNearWrongFalsely : Prop := fnZigZagNearRow.holds Try.pinned (OpenSpec.ofChange fnZigZagNearWrong)

/-- 'laws.FnExactEncodeBool': WHATEVER THE INPUT: true; the input reads as it did. -/
def fnExactEncodeBoolSpec : ChangeSpec := { name := "fnExactEncodeBool", fn := fun _ => fun
  | [d] => { results := [.lit (.bool true)], args := [d] }
  | _ => none }
def fnExactEncodeBoolRow : OpenClaim := { program := "ytflldcfgiphggaa", sum := "37633ede82dd766edc6bf2948bb74cb80aec610bc233eef312598f66522d1dc6", func := "loop.example/pub-wirefields/laws.FnExactEncodeBool", spec := "fnExactEncodeBool", apart := false }
def FnExactEncodeBoolSaid : Prop := fnExactEncodeBoolRow.holds Try.pinned (OpenSpec.ofChange fnExactEncodeBoolSpec)

/-- ITS FALSE NEIGHBOUR: 'it returns false'. Refute it at one input. -/
def fnExactEncodeBoolWrong : ChangeSpec := { name := "fnExactEncodeBool", fn := fun _ => fun
  | [d] => { results := [.lit (.bool false)], args := [d] }
  | _ => none }
def FnExactEncodeBoolWrongFalsely : Prop := fnExactEncodeBoolRow.holds Try.pinned (OpenSpec.ofChange fnExactEncodeBoolWrong)

/-- 'laws.FnExactSizeFixed': WHATEVER THE INPUT: true; the input reads as it did. -/
def fnExactSizeFixedSpec : ChangeSpec := { name := "fnExactSizeFixed", fn := fun _ => fun
  | [d] => { results := [.lit (.bool true)], args := [d] }
  | _ => none }
def fnExactSizeFixedRow : OpenClaim := { program := "ytflldcfgiphggaa", sum := "37633ede82dd766edc6bf2948bb74cb80aec610bc233eef312598f66522d1dc6", func := "loop.example/pub-wirefields/laws.FnExactSizeFixed", spec := "fnExactSizeFixed", apart := false }
def FnExactSizeFixedSaid : Prop := fnExactSizeFixedRow.holds Try.pinned (OpenSpec.ofChange fnExactSizeFixedSpec)

/-- ITS FALSE NEIGHBOUR: 'it returns false'. Refute it at one input. -/
def fnExactSizeFixedWrong : ChangeSpec := { name := "fnExactSizeFixed", fn := fun _ => fun
  | [d] => { results := [.lit (.bool false)], args := [d] }
  | _ => none }
def FnExactSizeFixedWrongFalsely : Prop := fnExactSizeFixedRow.holds Try.pinned (OpenSpec.ofChange fnExactSizeFixedWrong)

/-- 'laws.FnZigZag': WHATEVER THE INPUT: true; the input reads as it did. -/
def fnZigZagSpec : ChangeSpec := { name := "fnZigZag", fn := fun _ => fun
  | [d1, d2] => { results := [.lit (.bool true)], args := [d1, d2] }
  | _ => none }
def fnZigZagRow : OpenClaim := { program := "ytflldcfgiphggaa", sum := "37633ede82dd766edc6bf2948bb74cb80aec610bc233eef312598f66522d1dc6", func := "loop.example/pub-wirefields/laws.FnZigZag", spec := "fnZigZag", apart := false }
def FnZigZagSaid : Prop := fnZigZagRow.holds Try.pinned (OpenSpec.ofChange fnZigZagSpec)

/-- ITS FALSE NEIGHBOUR: 'it returns false'. Refute it at one input. -/
def fnZigZagWrong : ChangeSpec := { name := "fnZigZag", fn := fun _ => fun
  | [d1, d2] => { results := [.lit (.bool false)], args := [d1, d2] }
  | _ => none }
def FnZigZagWrongFalsely : Prop := fnZigZagRow.holds Try.pinned (OpenSpec.ofChange fnZigZagWrong)

/-- 'laws.FnBool': WHATEVER THE INPUT: true; the input reads as it did. -/
def fnBoolSpec : ChangeSpec := { name := "fnBool", fn := fun _ => fun
  | [d] => { results := [.lit (.bool true)], args := [d] }
  | _ => none }
def fnBoolRow : OpenClaim := { program := "ytflldcfgiphggaa", sum := "37633ede82dd766edc6bf2948bb74cb80aec610bc233eef312598f66522d1dc6", func := "loop.example/pub-wirefields/laws.FnBool", spec := "fnBool", apart := false }
def FnBoolSaid : Prop := fnBoolRow.holds Try.pinned (OpenSpec.ofChange fnBoolSpec)

/-- ITS FALSE NEIGHBOUR: 'it returns false'. Refute it at one input. -/
def fnBoolWrong : ChangeSpec := { name := "fnBool", fn := fun _ => fun
  | [d] => { results := [.lit (.bool false)], args := [d] }
  | _ => none }
def FnBoolWrongFalsely : Prop := fnBoolRow.holds Try.pinned (OpenSpec.ofChange fnBoolWrong)

/-- 'laws.FnTagCode': WHATEVER THE INPUT: true; the input reads as it did. -/
def fnTagCodeSpec : ChangeSpec := { name := "fnTagCode", fn := fun _ => fun
  | [d1, d2] => { results := [.lit (.bool true)], args := [d1, d2] }
  | _ => none }
def fnTagCodeRow : OpenClaim := { program := "ytflldcfgiphggaa", sum := "37633ede82dd766edc6bf2948bb74cb80aec610bc233eef312598f66522d1dc6", func := "loop.example/pub-wirefields/laws.FnTagCode", spec := "fnTagCode", apart := false }
def FnTagCodeSaid : Prop := fnTagCodeRow.holds Try.pinned (OpenSpec.ofChange fnTagCodeSpec)

/-- ITS FALSE NEIGHBOUR: 'it returns false'. Refute it at one input. -/
def fnTagCodeWrong : ChangeSpec := { name := "fnTagCode", fn := fun _ => fun
  | [d1, d2] => { results := [.lit (.bool false)], args := [d1, d2] }
  | _ => none }
def FnTagCodeWrongFalsely : Prop := fnTagCodeRow.holds Try.pinned (OpenSpec.ofChange fnTagCodeWrong)

/-- 'laws.FnExactAppendFixed32': WHATEVER THE INPUT: true; the input reads as it did. -/
def fnExactAppendFixed32Spec : ChangeSpec := { name := "fnExactAppendFixed32", fn := fun _ => fun
  | [d1, d2] => { results := [.lit (.bool true)], args := [d1, d2] }
  | _ => none }
def fnExactAppendFixed32Row : OpenClaim := { program := "ytflldcfgiphggaa", sum := "37633ede82dd766edc6bf2948bb74cb80aec610bc233eef312598f66522d1dc6", func := "loop.example/pub-wirefields/laws.FnExactAppendFixed32", spec := "fnExactAppendFixed32", apart := false }
def FnExactAppendFixed32Said : Prop := fnExactAppendFixed32Row.holds Try.pinned (OpenSpec.ofChange fnExactAppendFixed32Spec)

/-- ITS FALSE NEIGHBOUR: 'it returns false'. Refute it at one input. -/
def fnExactAppendFixed32Wrong : ChangeSpec := { name := "fnExactAppendFixed32", fn := fun _ => fun
  | [d1, d2] => { results := [.lit (.bool false)], args := [d1, d2] }
  | _ => none }
def FnExactAppendFixed32WrongFalsely : Prop := fnExactAppendFixed32Row.holds Try.pinned (OpenSpec.ofChange fnExactAppendFixed32Wrong)

/- THE SECOND FORM. 'bulk': how many values and letters a reading holds, each counted each time it is reached (what is shared counts as often as it is met; a slice's spare places count too). A statement '..UptoSaid' is the law's where the arguments, and the package variables that the reading takes, are together of bulk at most 1048576: NARROWER than '..Said'. Prove '..Said' where nothing that the law and all that it calls make is longer than what came in: it says more and counts as full. Else prove '..UptoSaid'. A law counts once. -/
mutual
def uptoBulk {H : Type} : DataW H → Nat
  | .lit (.string bytes) => bytes.length + 1
  | .lit _ => 1
  | .nil => 1
  | .ptr d => uptoBulk d + 1
  | .slice elems spare => uptoBulkAll elems + uptoBulkAll spare + 1
  | .agg parts => uptoBulkAll parts + 1
  | .iface _ d => uptoBulk d + 1
  | .map entries => uptoBulkEntries entries + 1
  | .held _ => 1
def uptoBulkAll {H : Type} : List (DataW H) → Nat
  | [] => 0
  | d :: r => uptoBulk d + uptoBulkAll r
def uptoBulkEntries {H : Type} : List (Lit × DataW H) → Nat
  | [] => 0
  | x :: r => uptoBulkEntry x + uptoBulkEntries r
def uptoBulkEntry {H : Type} : Lit × DataW H → Nat
  | (.string bytes, d) => bytes.length + uptoBulk d + 1
  | (_, d) => uptoBulk d + 1
 end
def uptoSmall : (H : Type) → List (DataW H) → Bool := fun _ ds => decide (uptoBulkAll ds ≤ 1048576)
def OpenSpec.upto (s : _root_.Go.ChangeSpec) : _root_.Go.OpenSpec := { _root_.Go.OpenSpec.ofChange s with cond := some uptoSmall }

/-- 'laws.FnExactDecodeBool', WHERE WHAT IT READS IS OF BULK AT MOST 1048576: true; the input reads as it did. -/
def fnExactDecodeBoolUptoRow : OpenClaim := { program := "ytflldcfgiphggaa", sum := "37633ede82dd766edc6bf2948bb74cb80aec610bc233eef312598f66522d1dc6", func := "loop.example/pub-wirefields/laws.FnExactDecodeBool", spec := "fnExactDecodeBool", apart := false, narrowed := true }
def FnExactDecodeBoolUptoSaid : Prop := fnExactDecodeBoolUptoRow.holds Try.pinned (OpenSpec.upto fnExactDecodeBoolSpec)

/-- 'laws.FnExactDecodeZigZag', WHERE WHAT IT READS IS OF BULK AT MOST 1048576: true; the input reads as it did. -/
def fnExactDecodeZigZagUptoRow : OpenClaim := { program := "ytflldcfgiphggaa", sum := "37633ede82dd766edc6bf2948bb74cb80aec610bc233eef312598f66522d1dc6", func := "loop.example/pub-wirefields/laws.FnExactDecodeZigZag", spec := "fnExactDecodeZigZag", apart := false, narrowed := true }
def FnExactDecodeZigZagUptoSaid : Prop := fnExactDecodeZigZagUptoRow.holds Try.pinned (OpenSpec.upto fnExactDecodeZigZagSpec)

/-- 'laws.FnExactEncodeTag', WHERE WHAT IT READS IS OF BULK AT MOST 1048576: true; the input reads as it did. -/
def fnExactEncodeTagUptoRow : OpenClaim := { program := "ytflldcfgiphggaa", sum := "37633ede82dd766edc6bf2948bb74cb80aec610bc233eef312598f66522d1dc6", func := "loop.example/pub-wirefields/laws.FnExactEncodeTag", spec := "fnExactEncodeTag", apart := false, narrowed := true }
def FnExactEncodeTagUptoSaid : Prop := fnExactEncodeTagUptoRow.holds Try.pinned (OpenSpec.upto fnExactEncodeTagSpec)

/-- 'laws.FnExactEncodeZigZag', WHERE WHAT IT READS IS OF BULK AT MOST 1048576: true; the input reads as it did. -/
def fnExactEncodeZigZagUptoRow : OpenClaim := { program := "ytflldcfgiphggaa", sum := "37633ede82dd766edc6bf2948bb74cb80aec610bc233eef312598f66522d1dc6", func := "loop.example/pub-wirefields/laws.FnExactEncodeZigZag", spec := "fnExactEncodeZigZag", apart := false, narrowed := true }
def FnExactEncodeZigZagUptoSaid : Prop := fnExactEncodeZigZagUptoRow.holds Try.pinned (OpenSpec.upto fnExactEncodeZigZagSpec)

/-- 'laws.FnExactIsValid', WHERE WHAT IT READS IS OF BULK AT MOST 1048576: true; the input reads as it did. -/
def fnExactIsValidUptoRow : OpenClaim := { program := "ytflldcfgiphggaa", sum := "37633ede82dd766edc6bf2948bb74cb80aec610bc233eef312598f66522d1dc6", func := "loop.example/pub-wirefields/laws.FnExactIsValid", spec := "fnExactIsValid", apart := false, narrowed := true }
def FnExactIsValidUptoSaid : Prop := fnExactIsValidUptoRow.holds Try.pinned (OpenSpec.upto fnExactIsValidSpec)

/-- 'laws.FnZigZagNear', WHERE WHAT IT READS IS OF BULK AT MOST 1048576: true; the input reads as it did. -/
def fnZigZagNearUptoRow : OpenClaim := { program := "ytflldcfgiphggaa", sum := "37633ede82dd766edc6bf2948bb74cb80aec610bc233eef312598f66522d1dc6", func := "loop.example/pub-wirefields/laws.FnZigZagNear", spec := "fnZigZagNear", apart := false, narrowed := true }
def FnZigZagNearUptoSaid : Prop := fnZigZagNearUptoRow.holds Try.pinned (OpenSpec.upto fnZigZagNearSpec)

/-- 'laws.FnExactEncodeBool', WHERE WHAT IT READS IS OF BULK AT MOST 1048576: true; the input reads as it did. -/
def fnExactEncodeBoolUptoRow : OpenClaim := { program := "ytflldcfgiphggaa", sum := "37633ede82dd766edc6bf2948bb74cb80aec610bc233eef312598f66522d1dc6", func := "loop.example/pub-wirefields/laws.FnExactEncodeBool", spec := "fnExactEncodeBool", apart := false, narrowed := true }
def FnExactEncodeBoolUptoSaid : Prop := fnExactEncodeBoolUptoRow.holds Try.pinned (OpenSpec.upto fnExactEncodeBoolSpec)

/-- 'laws.FnExactSizeFixed', WHERE WHAT IT READS IS OF BULK AT MOST 1048576: true; the input reads as it did. -/
def fnExactSizeFixedUptoRow : OpenClaim := { program := "ytflldcfgiphggaa", sum := "37633ede82dd766edc6bf2948bb74cb80aec610bc233eef312598f66522d1dc6", func := "loop.example/pub-wirefields/laws.FnExactSizeFixed", spec := "fnExactSizeFixed", apart := false, narrowed := true }
def FnExactSizeFixedUptoSaid : Prop := fnExactSizeFixedUptoRow.holds Try.pinned (OpenSpec.upto fnExactSizeFixedSpec)

/-- 'laws.FnZigZag', WHERE WHAT IT READS IS OF BULK AT MOST 1048576: true; the input reads as it did. -/
def fnZigZagUptoRow : OpenClaim := { program := "ytflldcfgiphggaa", sum := "37633ede82dd766edc6bf2948bb74cb80aec610bc233eef312598f66522d1dc6", func := "loop.example/pub-wirefields/laws.FnZigZag", spec := "fnZigZag", apart := false, narrowed := true }
def FnZigZagUptoSaid : Prop := fnZigZagUptoRow.holds Try.pinned (OpenSpec.upto fnZigZagSpec)

/-- 'laws.FnBool', WHERE WHAT IT READS IS OF BULK AT MOST 1048576: true; the input reads as it did. -/
def fnBoolUptoRow : OpenClaim := { program := "ytflldcfgiphggaa", sum := "37633ede82dd766edc6bf2948bb74cb80aec610bc233eef312598f66522d1dc6", func := "loop.example/pub-wirefields/laws.FnBool", spec := "fnBool", apart := false, narrowed := true }
def FnBoolUptoSaid : Prop := fnBoolUptoRow.holds Try.pinned (OpenSpec.upto fnBoolSpec)

/-- 'laws.FnTagCode', WHERE WHAT IT READS IS OF BULK AT MOST 1048576: true; the input reads as it did. -/
def fnTagCodeUptoRow : OpenClaim := { program := "ytflldcfgiphggaa", sum := "37633ede82dd766edc6bf2948bb74cb80aec610bc233eef312598f66522d1dc6", func := "loop.example/pub-wirefields/laws.FnTagCode", spec := "fnTagCode", apart := false, narrowed := true }
def FnTagCodeUptoSaid : Prop := fnTagCodeUptoRow.holds Try.pinned (OpenSpec.upto fnTagCodeSpec)

/-- 'laws.FnExactAppendFixed32', WHERE WHAT IT READS IS OF BULK AT MOST 1048576: true; the input reads as it did. -/
def fnExactAppendFixed32UptoRow : OpenClaim := { program := "ytflldcfgiphggaa", sum := "37633ede82dd766edc6bf2948bb74cb80aec610bc233eef312598f66522d1dc6", func := "loop.example/pub-wirefields/laws.FnExactAppendFixed32", spec := "fnExactAppendFixed32", apart := false, narrowed := true }
def FnExactAppendFixed32UptoSaid : Prop := fnExactAppendFixed32UptoRow.holds Try.pinned (OpenSpec.upto fnExactAppendFixed32Spec)

end Rows
end Go.Proofs.Ytflldcfgiphggaa
