/-
  No cell of these rows narrows 'for every input' (looked for: loops, veiled, ifaces, maps, wideKeys, modest, calm, conditions, laid).
  DERIVED. THE GIVEN ROWS OF THIS SEAT. 12 by the template 'for every input the law returns true; each argument reads behind the call as it read before'; 0 by the template 'total and deterministic' (their statements: YthjflhpgfbnobaaTotals.lean).
  GIVEN WITH THE SEED: the statements are not yours to turn. If you find one false, say at which input.
  Laid BY PROGRAM, IN A SANDBOX (cutbox-rows.mjs): the forced cells as the released guide's own fill.sh prints them over the translation 5cd796faf05e8fbf… (all of the seat's roots in one cut). By AI agents, Wed Nov 11 2026. No macro, syntax, notation, axiom, sorry.
-/
import Derived.Test.YthjflhpgfbnobaaChecked
import GoSem.Claim
import GoSem.ClaimJoined
import GoSem.ClaimMapViews
import Derived.JoinedTies
import Derived.KernelRfl
namespace Go.Proofs.Ythjflhpgfbnobaa
/- THE CELL 'sum', in the pinned program and in every row, IS THE sha256 OF THE DUMP (.gsa) THAT YthjflhpgfbnobaaProg.lean LOADS. Nothing in Lean hashes anything: it is a label: what it is worth is what the hold of that sum in a sandbox is worth. -/
noncomputable def Try.pinned : Pinned := { name := "ythjflhpgfbnobaa", sum := "5cd796faf05e8fbf80fcced33590a117891cbaeb1174d99e538f83b6f9a85a1c", checked := Try.checked }
namespace Rows
def none {H : Type} : Left H := { results := [], args := [] }

/-- 'laws.FnExactConsumeVarint': WHATEVER THE INPUT: true; the input reads as it did. -/
def fnExactConsumeVarintSpec : ChangeSpec := { name := "fnExactConsumeVarint", fn := fun _ => fun
  | [d] => { results := [.lit (.bool true)], args := [d] }
  | _ => none }
def fnExactConsumeVarintRow : OpenClaim := { program := "ythjflhpgfbnobaa", sum := "5cd796faf05e8fbf80fcced33590a117891cbaeb1174d99e538f83b6f9a85a1c", func := "loop.example/pub-wirefields/laws.FnExactConsumeVarint", spec := "fnExactConsumeVarint", apart := false }
def FnExactConsumeVarintSaid : Prop := fnExactConsumeVarintRow.holds Try.pinned (OpenSpec.ofChange fnExactConsumeVarintSpec)

/-- ITS FALSE NEIGHBOUR: 'it returns false'. Refute it at one input. -/
def fnExactConsumeVarintWrong : ChangeSpec := { name := "fnExactConsumeVarint", fn := fun _ => fun
  | [d] => { results := [.lit (.bool false)], args := [d] }
  | _ => none }
def FnExactConsumeVarintWrongFalsely : Prop := fnExactConsumeVarintRow.holds Try.pinned (OpenSpec.ofChange fnExactConsumeVarintWrong)

/-- 'laws.FnVarintLong': WHATEVER THE INPUT: true; the input reads as it did. -/
def fnVarintLongSpec : ChangeSpec := { name := "fnVarintLong", fn := fun _ => fun
  | [d] => { results := [.lit (.bool true)], args := [d] }
  | _ => none }
def fnVarintLongRow : OpenClaim := { program := "ythjflhpgfbnobaa", sum := "5cd796faf05e8fbf80fcced33590a117891cbaeb1174d99e538f83b6f9a85a1c", func := "loop.example/pub-wirefields/laws.FnVarintLong", spec := "fnVarintLong", apart := false }
def FnVarintLongSaid : Prop := fnVarintLongRow.holds Try.pinned (OpenSpec.ofChange fnVarintLongSpec)

/-- ITS FALSE NEIGHBOUR: 'it returns false'. Refute it at one input. -/
def fnVarintLongWrong : ChangeSpec := { name := "fnVarintLong", fn := fun _ => fun
  | [d] => { results := [.lit (.bool false)], args := [d] }
  | _ => none }
def FnVarintLongWrongFalsely : Prop := fnVarintLongRow.holds Try.pinned (OpenSpec.ofChange fnVarintLongWrong)

/-- 'laws.FnVarintPadded': WHATEVER THE INPUT: true; the input reads as it did. -/
def fnVarintPaddedSpec : ChangeSpec := { name := "fnVarintPadded", fn := fun _ => fun
  | [d1, d2] => { results := [.lit (.bool true)], args := [d1, d2] }
  | _ => none }
def fnVarintPaddedRow : OpenClaim := { program := "ythjflhpgfbnobaa", sum := "5cd796faf05e8fbf80fcced33590a117891cbaeb1174d99e538f83b6f9a85a1c", func := "loop.example/pub-wirefields/laws.FnVarintPadded", spec := "fnVarintPadded", apart := false }
def FnVarintPaddedSaid : Prop := fnVarintPaddedRow.holds Try.pinned (OpenSpec.ofChange fnVarintPaddedSpec)

/-- ITS FALSE NEIGHBOUR: 'it returns false'. Refute it at one input. -/
def fnVarintPaddedWrong : ChangeSpec := { name := "fnVarintPadded", fn := fun _ => fun
  | [d1, d2] => { results := [.lit (.bool false)], args := [d1, d2] }
  | _ => none }
def FnVarintPaddedWrongFalsely : Prop := fnVarintPaddedRow.holds Try.pinned (OpenSpec.ofChange fnVarintPaddedWrong)

/-- 'laws.FnExactConsumeFixed32': WHATEVER THE INPUT: true; the input reads as it did. -/
def fnExactConsumeFixed32Spec : ChangeSpec := { name := "fnExactConsumeFixed32", fn := fun _ => fun
  | [d] => { results := [.lit (.bool true)], args := [d] }
  | _ => none }
def fnExactConsumeFixed32Row : OpenClaim := { program := "ythjflhpgfbnobaa", sum := "5cd796faf05e8fbf80fcced33590a117891cbaeb1174d99e538f83b6f9a85a1c", func := "loop.example/pub-wirefields/laws.FnExactConsumeFixed32", spec := "fnExactConsumeFixed32", apart := false }
def FnExactConsumeFixed32Said : Prop := fnExactConsumeFixed32Row.holds Try.pinned (OpenSpec.ofChange fnExactConsumeFixed32Spec)

/-- ITS FALSE NEIGHBOUR: 'it returns false'. Refute it at one input. -/
def fnExactConsumeFixed32Wrong : ChangeSpec := { name := "fnExactConsumeFixed32", fn := fun _ => fun
  | [d] => { results := [.lit (.bool false)], args := [d] }
  | _ => none }
def FnExactConsumeFixed32WrongFalsely : Prop := fnExactConsumeFixed32Row.holds Try.pinned (OpenSpec.ofChange fnExactConsumeFixed32Wrong)

/-- 'laws.FnExactConsumeFixed64': WHATEVER THE INPUT: true; the input reads as it did. -/
def fnExactConsumeFixed64Spec : ChangeSpec := { name := "fnExactConsumeFixed64", fn := fun _ => fun
  | [d] => { results := [.lit (.bool true)], args := [d] }
  | _ => none }
def fnExactConsumeFixed64Row : OpenClaim := { program := "ythjflhpgfbnobaa", sum := "5cd796faf05e8fbf80fcced33590a117891cbaeb1174d99e538f83b6f9a85a1c", func := "loop.example/pub-wirefields/laws.FnExactConsumeFixed64", spec := "fnExactConsumeFixed64", apart := false }
def FnExactConsumeFixed64Said : Prop := fnExactConsumeFixed64Row.holds Try.pinned (OpenSpec.ofChange fnExactConsumeFixed64Spec)

/-- ITS FALSE NEIGHBOUR: 'it returns false'. Refute it at one input. -/
def fnExactConsumeFixed64Wrong : ChangeSpec := { name := "fnExactConsumeFixed64", fn := fun _ => fun
  | [d] => { results := [.lit (.bool false)], args := [d] }
  | _ => none }
def FnExactConsumeFixed64WrongFalsely : Prop := fnExactConsumeFixed64Row.holds Try.pinned (OpenSpec.ofChange fnExactConsumeFixed64Wrong)

/-- 'laws.FnExactDecodeTag': WHATEVER THE INPUT: true; the input reads as it did. -/
def fnExactDecodeTagSpec : ChangeSpec := { name := "fnExactDecodeTag", fn := fun _ => fun
  | [d] => { results := [.lit (.bool true)], args := [d] }
  | _ => none }
def fnExactDecodeTagRow : OpenClaim := { program := "ythjflhpgfbnobaa", sum := "5cd796faf05e8fbf80fcced33590a117891cbaeb1174d99e538f83b6f9a85a1c", func := "loop.example/pub-wirefields/laws.FnExactDecodeTag", spec := "fnExactDecodeTag", apart := false }
def FnExactDecodeTagSaid : Prop := fnExactDecodeTagRow.holds Try.pinned (OpenSpec.ofChange fnExactDecodeTagSpec)

/-- ITS FALSE NEIGHBOUR: 'it returns false'. Refute it at one input. -/
def fnExactDecodeTagWrong : ChangeSpec := { name := "fnExactDecodeTag", fn := fun _ => fun
  | [d] => { results := [.lit (.bool false)], args := [d] }
  | _ => none }
def FnExactDecodeTagWrongFalsely : Prop := fnExactDecodeTagRow.holds Try.pinned (OpenSpec.ofChange fnExactDecodeTagWrong)

/-- 'laws.FnExactConsumeBytes': WHATEVER THE INPUT: true; the input reads as it did. -/
def fnExactConsumeBytesSpec : ChangeSpec := { name := "fnExactConsumeBytes", fn := fun _ => fun
  | [d] => { results := [.lit (.bool true)], args := [d] }
  | _ => none }
def fnExactConsumeBytesRow : OpenClaim := { program := "ythjflhpgfbnobaa", sum := "5cd796faf05e8fbf80fcced33590a117891cbaeb1174d99e538f83b6f9a85a1c", func := "loop.example/pub-wirefields/laws.FnExactConsumeBytes", spec := "fnExactConsumeBytes", apart := false }
def FnExactConsumeBytesSaid : Prop := fnExactConsumeBytesRow.holds Try.pinned (OpenSpec.ofChange fnExactConsumeBytesSpec)

/-- ITS FALSE NEIGHBOUR: 'it returns false'. Refute it at one input. -/
def fnExactConsumeBytesWrong : ChangeSpec := { name := "fnExactConsumeBytes", fn := fun _ => fun
  | [d] => { results := [.lit (.bool false)], args := [d] }
  | _ => none }
def FnExactConsumeBytesWrongFalsely : Prop := fnExactConsumeBytesRow.holds Try.pinned (OpenSpec.ofChange fnExactConsumeBytesWrong)

/-- 'laws.FnExactConsumeString': WHATEVER THE INPUT: true; the input reads as it did. -/
def fnExactConsumeStringSpec : ChangeSpec := { name := "fnExactConsumeString", fn := fun _ => fun
  | [d] => { results := [.lit (.bool true)], args := [d] }
  | _ => none }
def fnExactConsumeStringRow : OpenClaim := { program := "ythjflhpgfbnobaa", sum := "5cd796faf05e8fbf80fcced33590a117891cbaeb1174d99e538f83b6f9a85a1c", func := "loop.example/pub-wirefields/laws.FnExactConsumeString", spec := "fnExactConsumeString", apart := false }
def FnExactConsumeStringSaid : Prop := fnExactConsumeStringRow.holds Try.pinned (OpenSpec.ofChange fnExactConsumeStringSpec)

/-- ITS FALSE NEIGHBOUR: 'it returns false'. Refute it at one input. -/
def fnExactConsumeStringWrong : ChangeSpec := { name := "fnExactConsumeString", fn := fun _ => fun
  | [d] => { results := [.lit (.bool false)], args := [d] }
  | _ => none }
def FnExactConsumeStringWrongFalsely : Prop := fnExactConsumeStringRow.holds Try.pinned (OpenSpec.ofChange fnExactConsumeStringWrong)

/-- 'laws.FnExactConsumeTag': WHATEVER THE INPUT: true; the input reads as it did. -/
def fnExactConsumeTagSpec : ChangeSpec := { name := "fnExactConsumeTag", fn := fun _ => fun
  | [d] => { results := [.lit (.bool true)], args := [d] }
  | _ => none }
def fnExactConsumeTagRow : OpenClaim := { program := "ythjflhpgfbnobaa", sum := "5cd796faf05e8fbf80fcced33590a117891cbaeb1174d99e538f83b6f9a85a1c", func := "loop.example/pub-wirefields/laws.FnExactConsumeTag", spec := "fnExactConsumeTag", apart := false }
def FnExactConsumeTagSaid : Prop := fnExactConsumeTagRow.holds Try.pinned (OpenSpec.ofChange fnExactConsumeTagSpec)

/-- ITS FALSE NEIGHBOUR: 'it returns false'. Refute it at one input. -/
def fnExactConsumeTagWrong : ChangeSpec := { name := "fnExactConsumeTag", fn := fun _ => fun
  | [d] => { results := [.lit (.bool false)], args := [d] }
  | _ => none }
def FnExactConsumeTagWrongFalsely : Prop := fnExactConsumeTagRow.holds Try.pinned (OpenSpec.ofChange fnExactConsumeTagWrong)

/-- 'laws.FnVarintCut': WHATEVER THE INPUT: true; the input reads as it did. -/
def fnVarintCutSpec : ChangeSpec := { name := "fnVarintCut", fn := fun _ => fun
  | [d1, d2] => { results := [.lit (.bool true)], args := [d1, d2] }
  | _ => none }
def fnVarintCutRow : OpenClaim := { program := "ythjflhpgfbnobaa", sum := "5cd796faf05e8fbf80fcced33590a117891cbaeb1174d99e538f83b6f9a85a1c", func := "loop.example/pub-wirefields/laws.FnVarintCut", spec := "fnVarintCut", apart := false }
def FnVarintCutSaid : Prop := fnVarintCutRow.holds Try.pinned (OpenSpec.ofChange fnVarintCutSpec)

/-- ITS FALSE NEIGHBOUR: 'it returns false'. Refute it at one input. -/
def fnVarintCutWrong : ChangeSpec := { name := "fnVarintCut", fn := fun _ => fun
  | [d1, d2] => { results := [.lit (.bool false)], args := [d1, d2] }
  | _ => none }
def FnVarintCutWrongFalsely : Prop := fnVarintCutRow.holds Try.pinned (OpenSpec.ofChange fnVarintCutWrong)

/-- 'laws.FnBytesCut': WHATEVER THE INPUT: true; the input reads as it did. -/
def fnBytesCutSpec : ChangeSpec := { name := "fnBytesCut", fn := fun _ => fun
  | [d1, d2] => { results := [.lit (.bool true)], args := [d1, d2] }
  | _ => none }
def fnBytesCutRow : OpenClaim := { program := "ythjflhpgfbnobaa", sum := "5cd796faf05e8fbf80fcced33590a117891cbaeb1174d99e538f83b6f9a85a1c", func := "loop.example/pub-wirefields/laws.FnBytesCut", spec := "fnBytesCut", apart := false }
def FnBytesCutSaid : Prop := fnBytesCutRow.holds Try.pinned (OpenSpec.ofChange fnBytesCutSpec)

/-- ITS FALSE NEIGHBOUR: 'it returns false'. Refute it at one input. -/
def fnBytesCutWrong : ChangeSpec := { name := "fnBytesCut", fn := fun _ => fun
  | [d1, d2] => { results := [.lit (.bool false)], args := [d1, d2] }
  | _ => none }
def FnBytesCutWrongFalsely : Prop := fnBytesCutRow.holds Try.pinned (OpenSpec.ofChange fnBytesCutWrong)

/-- 'laws.FnTagCut': WHATEVER THE INPUT: true; the input reads as it did. -/
def fnTagCutSpec : ChangeSpec := { name := "fnTagCut", fn := fun _ => fun
  | [d1, d2, d3] => { results := [.lit (.bool true)], args := [d1, d2, d3] }
  | _ => none }
def fnTagCutRow : OpenClaim := { program := "ythjflhpgfbnobaa", sum := "5cd796faf05e8fbf80fcced33590a117891cbaeb1174d99e538f83b6f9a85a1c", func := "loop.example/pub-wirefields/laws.FnTagCut", spec := "fnTagCut", apart := false }
def FnTagCutSaid : Prop := fnTagCutRow.holds Try.pinned (OpenSpec.ofChange fnTagCutSpec)

/-- ITS FALSE NEIGHBOUR: 'it returns false'. Refute it at one input. -/
def fnTagCutWrong : ChangeSpec := { name := "fnTagCut", fn := fun _ => fun
  | [d1, d2, d3] => { results := [.lit (.bool false)], args := [d1, d2, d3] }
  | _ => none }
def FnTagCutWrongFalsely : Prop := fnTagCutRow.holds Try.pinned (OpenSpec.ofChange fnTagCutWrong)

/- THE SECOND FORM. 'bulk': how many values and letters a reading holds, each counted each time it is reached (what is shared counts as often as it is met; a slice's spare places count too). A statement '..UptoSaid' is the law's where the arguments, and the package variables that the reading takes, are together of bulk at most 1048576: NARROWER than '..Said'. Prove '..Said' where nothing that the law and all that it calls make is longer than what came in: it says more and counts as full. Else prove '..UptoSaid'. A law counts once. -/
mutual
def uptoBulk {H : Type} : DataW H → Nat
  | .lit (.string bytes) => bytes.length + 1
  | .lit _ => 1
  | .nil => 1
  | .ptr d => uptoBulk d + 1
  | .slice elems spare => uptoBulkAll elems + uptoBulkAll spare + 1
  | .agg parts => uptoBulkAll parts + 1
  | .iface _ d => uptoBulk d + 1
  | .map entries => uptoBulkEntries entries + 1
  | .held _ => 1
def uptoBulkAll {H : Type} : List (DataW H) → Nat
  | [] => 0
  | d :: r => uptoBulk d + uptoBulkAll r
def uptoBulkEntries {H : Type} : List (Lit × DataW H) → Nat
  | [] => 0
  | x :: r => uptoBulkEntry x + uptoBulkEntries r
def uptoBulkEntry {H : Type} : Lit × DataW H → Nat
  | (.string bytes, d) => bytes.length + uptoBulk d + 1
  | (_, d) => uptoBulk d + 1
 end
def uptoSmall : (H : Type) → List (DataW H) → Bool := fun _ ds => decide (uptoBulkAll ds ≤ 1048576)
def OpenSpec.upto (s : _root_.Go.ChangeSpec) : _root_.Go.OpenSpec := { _root_.Go.OpenSpec.ofChange s with cond := some uptoSmall }

/-- 'laws.FnExactConsumeVarint', WHERE WHAT IT READS IS OF BULK AT MOST 1048576: true; the input reads as it did. -/
def fnExactConsumeVarintUptoRow : OpenClaim := { program := "ythjflhpgfbnobaa", sum := "5cd796faf05e8fbf80fcced33590a117891cbaeb1174d99e538f83b6f9a85a1c", func := "loop.example/pub-wirefields/laws.FnExactConsumeVarint", spec := "fnExactConsumeVarint", apart := false, narrowed := true }
def FnExactConsumeVarintUptoSaid : Prop := fnExactConsumeVarintUptoRow.holds Try.pinned (OpenSpec.upto fnExactConsumeVarintSpec)

/-- 'laws.FnVarintLong', WHERE WHAT IT READS IS OF BULK AT MOST 1048576: true; the input reads as it did. -/
def fnVarintLongUptoRow : OpenClaim := { program := "ythjflhpgfbnobaa", sum := "5cd796faf05e8fbf80fcced33590a117891cbaeb1174d99e538f83b6f9a85a1c", func := "loop.example/pub-wirefields/laws.FnVarintLong", spec := "fnVarintLong", apart := false, narrowed := true }
def FnVarintLongUptoSaid : Prop := fnVarintLongUptoRow.holds Try.pinned (OpenSpec.upto fnVarintLongSpec)

/-- 'laws.FnVarintPadded', WHERE WHAT IT READS IS OF BULK AT MOST 1048576: true; the input reads as it did. -/
def fnVarintPaddedUptoRow : OpenClaim := { program := "ythjflhpgfbnobaa", sum := "5cd796faf05e8fbf80fcced33590a117891cbaeb1174d99e538f83b6f9a85a1c", func := "loop.example/pub-wirefields/laws.FnVarintPadded", spec := "fnVarintPadded", apart := false, narrowed := true }
def FnVarintPaddedUptoSaid : Prop := fnVarintPaddedUptoRow.holds Try.pinned (OpenSpec.upto fnVarintPaddedSpec)

/-- 'laws.FnExactConsumeFixed32', WHERE WHAT IT READS IS OF BULK AT MOST 1048576: true; the input reads as it did. -/
def fnExactConsumeFixed32UptoRow : OpenClaim := { program := "ythjflhpgfbnobaa", sum := "5cd796faf05e8fbf80fcced33590a117891cbaeb1174d99e538f83b6f9a85a1c", func := "loop.example/pub-wirefields/laws.FnExactConsumeFixed32", spec := "fnExactConsumeFixed32", apart := false, narrowed := true }
def FnExactConsumeFixed32UptoSaid : Prop := fnExactConsumeFixed32UptoRow.holds Try.pinned (OpenSpec.upto fnExactConsumeFixed32Spec)

/-- 'laws.FnExactConsumeFixed64', WHERE WHAT IT READS IS OF BULK AT MOST 1048576: true; the input reads as it did. -/
def fnExactConsumeFixed64UptoRow : OpenClaim := { program := "ythjflhpgfbnobaa", sum := "5cd796faf05e8fbf80fcced33590a117891cbaeb1174d99e538f83b6f9a85a1c", func := "loop.example/pub-wirefields/laws.FnExactConsumeFixed64", spec := "fnExactConsumeFixed64", apart := false, narrowed := true }
def FnExactConsumeFixed64UptoSaid : Prop := fnExactConsumeFixed64UptoRow.holds Try.pinned (OpenSpec.upto fnExactConsumeFixed64Spec)

/-- 'laws.FnExactDecodeTag', WHERE WHAT IT READS IS OF BULK AT MOST 1048576: true; the input reads as it did. -/
def fnExactDecodeTagUptoRow : OpenClaim := { program := "ythjflhpgfbnobaa", sum := "5cd796faf05e8fbf80fcced33590a117891cbaeb1174d99e538f83b6f9a85a1c", func := "loop.example/pub-wirefields/laws.FnExactDecodeTag", spec := "fnExactDecodeTag", apart := false, narrowed := true }
def FnExactDecodeTagUptoSaid : Prop := fnExactDecodeTagUptoRow.holds Try.pinned (OpenSpec.upto fnExactDecodeTagSpec)

/-- 'laws.FnExactConsumeBytes', WHERE WHAT IT READS IS OF BULK AT MOST 1048576: true; the input reads as it did. -/
def fnExactConsumeBytesUptoRow : OpenClaim := { program := "ythjflhpgfbnobaa", sum := "5cd796faf05e8fbf80fcced33590a117891cbaeb1174d99e538f83b6f9a85a1c", func := "loop.example/pub-wirefields/laws.FnExactConsumeBytes", spec := "fnExactConsumeBytes", apart := false, narrowed := true }
def FnExactConsumeBytesUptoSaid : Prop := fnExactConsumeBytesUptoRow.holds Try.pinned (OpenSpec.upto fnExactConsumeBytesSpec)

/-- 'laws.FnExactConsumeString', WHERE WHAT IT READS IS OF BULK AT MOST 1048576: true; the input reads as it did. -/
def fnExactConsumeStringUptoRow : OpenClaim := { program := "ythjflhpgfbnobaa", sum := "5cd796faf05e8fbf80fcced33590a117891cbaeb1174d99e538f83b6f9a85a1c", func := "loop.example/pub-wirefields/laws.FnExactConsumeString", spec := "fnExactConsumeString", apart := false, narrowed := true }
def FnExactConsumeStringUptoSaid : Prop := fnExactConsumeStringUptoRow.holds Try.pinned (OpenSpec.upto fnExactConsumeStringSpec)

/-- 'laws.FnExactConsumeTag', WHERE WHAT IT READS IS OF BULK AT MOST 1048576: true; the input reads as it did. -/
def fnExactConsumeTagUptoRow : OpenClaim := { program := "ythjflhpgfbnobaa", sum := "5cd796faf05e8fbf80fcced33590a117891cbaeb1174d99e538f83b6f9a85a1c", func := "loop.example/pub-wirefields/laws.FnExactConsumeTag", spec := "fnExactConsumeTag", apart := false, narrowed := true }
def FnExactConsumeTagUptoSaid : Prop := fnExactConsumeTagUptoRow.holds Try.pinned (OpenSpec.upto fnExactConsumeTagSpec)

/-- 'laws.FnVarintCut', WHERE WHAT IT READS IS OF BULK AT MOST 1048576: true; the input reads as it did. -/
def fnVarintCutUptoRow : OpenClaim := { program := "ythjflhpgfbnobaa", sum := "5cd796faf05e8fbf80fcced33590a117891cbaeb1174d99e538f83b6f9a85a1c", func := "loop.example/pub-wirefields/laws.FnVarintCut", spec := "fnVarintCut", apart := false, narrowed := true }
def FnVarintCutUptoSaid : Prop := fnVarintCutUptoRow.holds Try.pinned (OpenSpec.upto fnVarintCutSpec)

/-- 'laws.FnBytesCut', WHERE WHAT IT READS IS OF BULK AT MOST 1048576: true; the input reads as it did. -/
def fnBytesCutUptoRow : OpenClaim := { program := "ythjflhpgfbnobaa", sum := "5cd796faf05e8fbf80fcced33590a117891cbaeb1174d99e538f83b6f9a85a1c", func := "loop.example/pub-wirefields/laws.FnBytesCut", spec := "fnBytesCut", apart := false, narrowed := true }
def FnBytesCutUptoSaid : Prop := fnBytesCutUptoRow.holds Try.pinned (OpenSpec.upto fnBytesCutSpec)

/-- 'laws.FnTagCut', WHERE WHAT IT READS IS OF BULK AT MOST 1048576: true; the input reads as it did. -/
def fnTagCutUptoRow : OpenClaim := { program := "ythjflhpgfbnobaa", sum := "5cd796faf05e8fbf80fcced33590a117891cbaeb1174d99e538f83b6f9a85a1c", func := "loop.example/pub-wirefields/laws.FnTagCut", spec := "fnTagCut", apart := false, narrowed := true }
def FnTagCutUptoSaid : Prop := fnTagCutUptoRow.holds Try.pinned (OpenSpec.upto fnTagCutSpec)

end Rows
end Go.Proofs.Ythjflhpgfbnobaa
