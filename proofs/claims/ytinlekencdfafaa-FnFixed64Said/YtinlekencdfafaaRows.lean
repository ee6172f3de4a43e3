/-
  No cell of these rows narrows 'for every input' (looked for: loops, veiled, ifaces, maps, wideKeys, modest, calm, conditions, laid).
  DERIVED. THE GIVEN ROWS OF THIS SEAT. 12 by the template 'for every input the law returns true; each argument reads behind the call as it read before'; 0 by the template 'total and deterministic' (their statements: YtinlekencdfafaaTotals.lean).
  GIVEN WITH THE SEED: the statements are not yours to turn. If you find one false, say at which input.
  Laid BY PROGRAM, IN A SANDBOX (cutbox-rows.mjs): the forced cells as the released guide's own fill.sh prints them over the translation c071c664743983ee… (all of the seat's roots in one cut). By AI agents, Wed Nov 11 2026. No macro, syntax, notation, axiom, sorry.
-/
import Derived.Test.YtinlekencdfafaaChecked
import GoSem.Claim
import GoSem.ClaimJoined
import GoSem.ClaimMapViews
import Derived.JoinedTies
import Derived.KernelRfl
namespace Go.Proofs.Ytinlekencdfafaa
/- THE CELL 'sum', in the pinned program and in every row, IS THE sha256 OF THE DUMP (.gsa) THAT YtinlekencdfafaaProg.lean LOADS. Nothing in Lean hashes anything: it is a label: what it is worth is what the hold of that sum in a sandbox is worth. -/
noncomputable def Try.pinned : Pinned := { name := "ytinlekencdfafaa", sum := "c071c664743983ee194117723bbccc0f1a90e06eb16abb7f751efaa581eaea00", checked := Try.checked }
namespace Rows
def none {H : Type} : Left H := { results := [], args := [] }

/-- 'laws.FnExactAppendFixed64': WHATEVER THE INPUT: true; the input reads as it did. -/
def fnExactAppendFixed64Spec : ChangeSpec := { name := "fnExactAppendFixed64", fn := fun _ => fun
  | [d1, d2] => { results := [.lit (.bool true)], args := [d1, d2] }
  | _ => none }
def fnExactAppendFixed64Row : OpenClaim := { program := "ytinlekencdfafaa", sum := "c071c664743983ee194117723bbccc0f1a90e06eb16abb7f751efaa581eaea00", func := "loop.example/pub-wirefields/laws.FnExactAppendFixed64", spec := "fnExactAppendFixed64", apart := false }
def FnExactAppendFixed64Said : Prop := fnExactAppendFixed64Row.holds Try.pinned (OpenSpec.ofChange fnExactAppendFixed64Spec)

/-- ITS FALSE NEIGHBOUR: 'it returns false'. Refute it at one input. -/
def fnExactAppendFixed64Wrong : ChangeSpec := { name := "fnExactAppendFixed64", fn := fun _ => fun
  | [d1, d2] => { results := [.lit (.bool false)], args := [d1, d2] }
  | _ => none }
def FnExactAppendFixed64WrongFalsely : Prop := fnExactAppendFixed64Row.holds Try.pinned (OpenSpec.ofChange fnExactAppendFixed64Wrong)

/-- 'laws.FnFixed32': WHATEVER THE INPUT: true; the input reads as it did. -/
def fnFixed32Spec : ChangeSpec := { name := "fnFixed32", fn := fun _ => fun
  | [d1, d2] => { results := [.lit (.bool true)], args := [d1, d2] }
  | _ => none }
def fnFixed32Row : OpenClaim := { program := "ytinlekencdfafaa", sum := "c071c664743983ee194117723bbccc0f1a90e06eb16abb7f751efaa581eaea00", func := "loop.example/pub-wirefields/laws.FnFixed32", spec := "fnFixed32", apart := false }
def FnFixed32Said : Prop := fnFixed32Row.holds Try.pinned (OpenSpec.ofChange fnFixed32Spec)

/-- ITS FALSE NEIGHBOUR: 'it returns false'. Refute it at one input. -/
def fnFixed32Wrong : ChangeSpec := { name := "fnFixed32", fn := fun _ => fun
  | [d1, d2] => { results := [.lit (.bool false)], args := [d1, d2] }
  | _ => none }
def FnFixed32WrongFalsely : Prop := fnFixed32Row.holds Try.pinned (OpenSpec.ofChange fnFixed32Wrong)

/-- 'laws.FnFixed64': WHATEVER THE INPUT: true; the input reads as it did. -/
def fnFixed64Spec : ChangeSpec := { name := "fnFixed64", fn := fun _ => fun
  | [d1, d2] => { results := [.lit (.bool true)], args := [d1, d2] }
  | _ => none }
def fnFixed64Row : OpenClaim := { program := "ytinlekencdfafaa", sum := "c071c664743983ee194117723bbccc0f1a90e06eb16abb7f751efaa581eaea00", func := "loop.example/pub-wirefields/laws.FnFixed64", spec := "fnFixed64", apart := false }
def FnFixed64Said : Prop := fnFixed64Row.holds Try.pinned (OpenSpec.ofChange fnFixed64Spec)

/-- ITS FALSE NEIGHBOUR: 'it returns false'. Refute it at one input. -/
def fnFixed64Wrong : ChangeSpec := { name := "fnFixed64", fn := fun _ => fun
  | [d1, d2] => { results := [.lit (.bool false)], args := [d1, d2] }
  | _ => none }
def FnFixed64WrongFalsely : Prop := fnFixed64Row.holds Try.pinned (OpenSpec.ofChange fnFixed64Wrong)

/-- 'laws.FnExactSizeVarint': WHATEVER THE INPUT: true; the input reads as it did. -/
def fnExactSizeVarintSpec : ChangeSpec := { name := "fnExactSizeVarint", fn := fun _ => fun
  | [d] => { results := [.lit (.bool true)], args := [d] }
  | _ => none }
def fnExactSizeVarintRow : OpenClaim := { program := "ytinlekencdfafaa", sum := "c071c664743983ee194117723bbccc0f1a90e06eb16abb7f751efaa581eaea00", func := "loop.example/pub-wirefields/laws.FnExactSizeVarint", spec := "fnExactSizeVarint", apart := false }
def FnExactSizeVarintSaid : Prop := fnExactSizeVarintRow.holds Try.pinned (OpenSpec.ofChange fnExactSizeVarintSpec)

/-- ITS FALSE NEIGHBOUR: 'it returns false'. Refute it at one input. -/
def fnExactSizeVarintWrong : ChangeSpec := { name := "fnExactSizeVarint", fn := fun _ => fun
  | [d] => { results := [.lit (.bool false)], args := [d] }
  | _ => none }
def FnExactSizeVarintWrongFalsely : Prop := fnExactSizeVarintRow.holds Try.pinned (OpenSpec.ofChange fnExactSizeVarintWrong)

/-- 'laws.FnSizeVarintBounds': WHATEVER THE INPUT: true; the input reads as it did. -/
def fnSizeVarintBoundsSpec : ChangeSpec := { name := "fnSizeVarintBounds", fn := fun _ => fun
  | [d1, d2] => { results := [.lit (.bool true)], args := [d1, d2] }
  | _ => none }
def fnSizeVarintBoundsRow : OpenClaim := { program := "ytinlekencdfafaa", sum := "c071c664743983ee194117723bbccc0f1a90e06eb16abb7f751efaa581eaea00", func := "loop.example/pub-wirefields/laws.FnSizeVarintBounds", spec := "fnSizeVarintBounds", apart := false }
def FnSizeVarintBoundsSaid : Prop := fnSizeVarintBoundsRow.holds Try.pinned (OpenSpec.ofChange fnSizeVarintBoundsSpec)

/-- ITS FALSE NEIGHBOUR: 'it returns false'. Refute it at one input. -/
def fnSizeVarintBoundsWrong : ChangeSpec := { name := "fnSizeVarintBounds", fn := fun _ => fun
  | [d1, d2] => { results := [.lit (.bool false)], args := [d1, d2] }
  | _ => none }
def FnSizeVarintBoundsWrongFalsely : Prop := fnSizeVarintBoundsRow.holds Try.pinned (OpenSpec.ofChange fnSizeVarintBoundsWrong)

/-- 'laws.FnExactSizeBytes': WHATEVER THE INPUT: true; the input reads as it did. -/
def fnExactSizeBytesSpec : ChangeSpec := { name := "fnExactSizeBytes", fn := fun _ => fun
  | [d] => { results := [.lit (.bool true)], args := [d] }
  | _ => none }
def fnExactSizeBytesRow : OpenClaim := { program := "ytinlekencdfafaa", sum := "c071c664743983ee194117723bbccc0f1a90e06eb16abb7f751efaa581eaea00", func := "loop.example/pub-wirefields/laws.FnExactSizeBytes", spec := "fnExactSizeBytes", apart := false }
def FnExactSizeBytesSaid : Prop := fnExactSizeBytesRow.holds Try.pinned (OpenSpec.ofChange fnExactSizeBytesSpec)

/-- ITS FALSE NEIGHBOUR: 'it returns false'. Refute it at one input. -/
def fnExactSizeBytesWrong : ChangeSpec := { name := "fnExactSizeBytes", fn := fun _ => fun
  | [d] => { results := [.lit (.bool false)], args := [d] }
  | _ => none }
def FnExactSizeBytesWrongFalsely : Prop := fnExactSizeBytesRow.holds Try.pinned (OpenSpec.ofChange fnExactSizeBytesWrong)

/-- 'laws.FnExactSizeTag': WHATEVER THE INPUT: true; the input reads as it did. -/
def fnExactSizeTagSpec : ChangeSpec := { name := "fnExactSizeTag", fn := fun _ => fun
  | [d1, d2] => { results := [.lit (.bool true)], args := [d1, d2] }
  | _ => none }
def fnExactSizeTagRow : OpenClaim := { program := "ytinlekencdfafaa", sum := "c071c664743983ee194117723bbccc0f1a90e06eb16abb7f751efaa581eaea00", func := "loop.example/pub-wirefields/laws.FnExactSizeTag", spec := "fnExactSizeTag", apart := false }
def FnExactSizeTagSaid : Prop := fnExactSizeTagRow.holds Try.pinned (OpenSpec.ofChange fnExactSizeTagSpec)

/-- ITS FALSE NEIGHBOUR: 'it returns false'. Refute it at one input. -/
def fnExactSizeTagWrong : ChangeSpec := { name := "fnExactSizeTag", fn := fun _ => fun
  | [d1, d2] => { results := [.lit (.bool false)], args := [d1, d2] }
  | _ => none }
def FnExactSizeTagWrongFalsely : Prop := fnExactSizeTagRow.holds Try.pinned (OpenSpec.ofChange fnExactSizeTagWrong)

/-- 'laws.FnExactSizeGroup': WHATEVER THE INPUT: true; the input reads as it did. -/
def fnExactSizeGroupSpec : ChangeSpec := { name := "fnExactSizeGroup", fn := fun _ => fun
  | [d1, d2] => { results := [.lit (.bool true)], args := [d1, d2] }
  | _ => none }
def fnExactSizeGroupRow : OpenClaim := { program := "ytinlekencdfafaa", sum := "c071c664743983ee194117723bbccc0f1a90e06eb16abb7f751efaa581eaea00", func := "loop.example/pub-wirefields/laws.FnExactSizeGroup", spec := "fnExactSizeGroup", apart := false }
def FnExactSizeGroupSaid : Prop := fnExactSizeGroupRow.holds Try.pinned (OpenSpec.ofChange fnExactSizeGroupSpec)

/-- ITS FALSE NEIGHBOUR: 'it returns false'. Refute it at one input. -/
def fnExactSizeGroupWrong : ChangeSpec := { name := "fnExactSizeGroup", fn := fun _ => fun
  | [d1, d2] => { results := [.lit (.bool false)], args := [d1, d2] }
  | _ => none }
def FnExactSizeGroupWrongFalsely : Prop := fnExactSizeGroupRow.holds Try.pinned (OpenSpec.ofChange fnExactSizeGroupWrong)

/-- 'laws.FnExactAppendVarint': WHATEVER THE INPUT: true; the input reads as it did. -/
def fnExactAppendVarintSpec : ChangeSpec := { name := "fnExactAppendVarint", fn := fun _ => fun
  | [d1, d2] => { results := [.lit (.bool true)], args := [d1, d2] }
  | _ => none }
def fnExactAppendVarintRow : OpenClaim := { program := "ytinlekencdfafaa", sum := "c071c664743983ee194117723bbccc0f1a90e06eb16abb7f751efaa581eaea00", func := "loop.example/pub-wirefields/laws.FnExactAppendVarint", spec := "fnExactAppendVarint", apart := false }
def FnExactAppendVarintSaid : Prop := fnExactAppendVarintRow.holds Try.pinned (OpenSpec.ofChange fnExactAppendVarintSpec)

/-- ITS FALSE NEIGHBOUR: 'it returns false'. Refute it at one input. -/
def fnExactAppendVarintWrong : ChangeSpec := { name := "fnExactAppendVarint", fn := fun _ => fun
  | [d1, d2] => { results := [.lit (.bool false)], args := [d1, d2] }
  | _ => none }
def FnExactAppendVarintWrongFalsely : Prop := fnExactAppendVarintRow.holds Try.pinned (OpenSpec.ofChange fnExactAppendVarintWrong)

/-- 'laws.FnExactAppendBytes': WHATEVER THE INPUT: true; the input reads as it did. -/
def fnExactAppendBytesSpec : ChangeSpec := { name := "fnExactAppendBytes", fn := fun _ => fun
  | [d1, d2] => { results := [.lit (.bool true)], args := [d1, d2] }
  | _ => none }
def fnExactAppendBytesRow : OpenClaim := { program := "ytinlekencdfafaa", sum := "c071c664743983ee194117723bbccc0f1a90e06eb16abb7f751efaa581eaea00", func := "loop.example/pub-wirefields/laws.FnExactAppendBytes", spec := "fnExactAppendBytes", apart := false }
def FnExactAppendBytesSaid : Prop := fnExactAppendBytesRow.holds Try.pinned (OpenSpec.ofChange fnExactAppendBytesSpec)

/-- ITS FALSE NEIGHBOUR: 'it returns false'. Refute it at one input. -/
def fnExactAppendBytesWrong : ChangeSpec := { name := "fnExactAppendBytes", fn := fun _ => fun
  | [d1, d2] => { results := [.lit (.bool false)], args := [d1, d2] }
  | _ => none }
def FnExactAppendBytesWrongFalsely : Prop := fnExactAppendBytesRow.holds Try.pinned (OpenSpec.ofChange fnExactAppendBytesWrong)

/-- 'laws.FnExactAppendTag': WHATEVER THE INPUT: true; the input reads as it did. -/
def fnExactAppendTagSpec : ChangeSpec := { name := "fnExactAppendTag", fn := fun _ => fun
  | [d1, d2, d3] => { results := [.lit (.bool true)], args := [d1, d2, d3] }
  | _ => none }
def fnExactAppendTagRow : OpenClaim := { program := "ytinlekencdfafaa", sum := "c071c664743983ee194117723bbccc0f1a90e06eb16abb7f751efaa581eaea00", func := "loop.example/pub-wirefields/laws.FnExactAppendTag", spec := "fnExactAppendTag", apart := false }
def FnExactAppendTagSaid : Prop := fnExactAppendTagRow.holds Try.pinned (OpenSpec.ofChange fnExactAppendTagSpec)

/-- ITS FALSE NEIGHBOUR: 'it returns false'. Refute it at one input. -/
def fnExactAppendTagWrong : ChangeSpec := { name := "fnExactAppendTag", fn := fun _ => fun
  | [d1, d2, d3] => { results := [.lit (.bool false)], args := [d1, d2, d3] }
  | _ => none }
def FnExactAppendTagWrongFalsely : Prop := fnExactAppendTagRow.holds Try.pinned (OpenSpec.ofChange fnExactAppendTagWrong)

/-- 'laws.FnExactAppendString': WHATEVER THE INPUT: true; the input reads as it did. -/
def fnExactAppendStringSpec : ChangeSpec := { name := "fnExactAppendString", fn := fun _ => fun
  | [d1, d2] => { results := [.lit (.bool true)], args := [d1, d2] }
  | _ => none }
def fnExactAppendStringRow : OpenClaim := { program := "ytinlekencdfafaa", sum := "c071c664743983ee194117723bbccc0f1a90e06eb16abb7f751efaa581eaea00", func := "loop.example/pub-wirefields/laws.FnExactAppendString", spec := "fnExactAppendString", apart := false }
def FnExactAppendStringSaid : Prop := fnExactAppendStringRow.holds Try.pinned (OpenSpec.ofChange fnExactAppendStringSpec)

/-- ITS FALSE NEIGHBOUR: 'it returns false'. Refute it at one input. -/
def fnExactAppendStringWrong : ChangeSpec := { name := "fnExactAppendString", fn := fun _ => fun
  | [d1, d2] => { results := [.lit (.bool false)], args := [d1, d2] }
  | _ => none }
def FnExactAppendStringWrongFalsely : Prop := fnExactAppendStringRow.holds Try.pinned (OpenSpec.ofChange fnExactAppendStringWrong)

/- THE SECOND FORM. 'bulk': how many values and letters a reading holds, each counted each time it is reached (what is shared counts as often as it is met; a slice's spare places count too). A statement '..UptoSaid' is the law's where the arguments, and the package variables that the reading takes, are together of bulk at most 1048576: NARROWER than '..Said'. Prove '..Said' where nothing that the law and all that it calls make is longer than what came in: it says more and counts as full. Else prove '..UptoSaid'. A law counts once. -/
mutual
def uptoBulk {H : Type} : DataW H → Nat
  | .lit (.string bytes) => bytes.length + 1
  | .lit _ => 1
  | .nil => 1
  | .ptr d => uptoBulk d + 1
  | .slice elems spare => uptoBulkAll elems + uptoBulkAll spare + 1
  | .agg parts => uptoBulkAll parts + 1
  | .iface _ d => uptoBulk d + 1
  | .map entries => uptoBulkEntries entries + 1
  | .held _ => 1
def uptoBulkAll {H : Type} : List (DataW H) → Nat
  | [] => 0
  | d :: r => uptoBulk d + uptoBulkAll r
def uptoBulkEntries {H : Type} : List (Lit × DataW H) → Nat
  | [] => 0
  | x :: r => uptoBulkEntry x + uptoBulkEntries r
def uptoBulkEntry {H : Type} : Lit × DataW H → Nat
  | (.string bytes, d) => bytes.length + uptoBulk d + 1
  | (_, d) => uptoBulk d + 1
 end
def uptoSmall : (H : Type) → List (DataW H) → Bool := fun _ ds => decide (uptoBulkAll ds ≤ 1048576)
def OpenSpec.upto (s : _root_.Go.ChangeSpec) : _root_.Go.OpenSpec := { _root_.Go.OpenSpec.ofChange s with cond := some uptoSmall }

/-- 'laws.FnExactAppendFixed64', WHERE WHAT IT READS IS OF BULK AT MOST 1048576: true; the input reads as it did. -/
def fnExactAppendFixed64UptoRow : OpenClaim := { program := "ytinlekencdfafaa", sum := "c071c664743983ee194117723bbccc0f1a90e06eb16abb7f751efaa581eaea00", func := "loop.example/pub-wirefields/laws.FnExactAppendFixed64", spec := "fnExactAppendFixed64", apart := false, narrowed := true }
def FnExactAppendFixed64UptoSaid : Prop := fnExactAppendFixed64UptoRow.holds Try.pinned (OpenSpec.upto fnExactAppendFixed64Spec)

/-- 'laws.FnFixed32', WHERE WHAT IT READS IS OF BULK AT MOST 1048576: true; the input reads as it did. -/
def fnFixed32UptoRow : OpenClaim := { program := "ytinlekencdfafaa", sum := "c071c664743983ee194117723bbccc0f1a90e06eb16abb7f751efaa581eaea00", func := "loop.example/pub-wirefields/laws.FnFixed32", spec := "fnFixed32", apart := false, narrowed := true }
def FnFixed32UptoSaid : Prop := fnFixed32UptoRow.holds Try.pinned (OpenSpec.upto fnFixed32Spec)

/-- 'laws.FnFixed64', WHERE WHAT IT READS IS OF BULK AT MOST 1048576: true; the input reads as it did. -/
def fnFixed64UptoRow : OpenClaim := { program := "ytinlekencdfafaa", sum := "c071c664743983ee194117723bbccc0f1a90e06eb16abb7f751efaa581eaea00", func := "loop.example/pub-wirefields/laws.FnFixed64", spec := "fnFixed64", apart := false, narrowed := true }
def FnFixed64UptoSaid : Prop := fnFixed64UptoRow.holds Try.pinned (OpenSpec.upto fnFixed64Spec)

/-- 'laws.FnExactSizeVarint', WHERE WHAT IT READS IS OF BULK AT MOST 1048576: true; the input reads as it did. -/
def fnExactSizeVarintUptoRow : OpenClaim := { program := "ytinlekencdfafaa", sum := "c071c664743983ee194117723bbccc0f1a90e06eb16abb7f751efaa581eaea00", func := "loop.example/pub-wirefields/laws.FnExactSizeVarint", spec := "fnExactSizeVarint", apart := false, narrowed := true }
def FnExactSizeVarintUptoSaid : Prop := fnExactSizeVarintUptoRow.holds Try.pinned (OpenSpec.upto fnExactSizeVarintSpec)

/-- 'laws.FnSizeVarintBounds', WHERE WHAT IT READS IS OF BULK AT MOST 1048576: true; the input reads as it did. -/
def fnSizeVarintBoundsUptoRow : OpenClaim := { program := "ytinlekencdfafaa", sum := "c071c664743983ee194117723bbccc0f1a90e06eb16abb7f751efaa581eaea00", func := "loop.example/pub-wirefields/laws.FnSizeVarintBounds", spec := "fnSizeVarintBounds", apart := false, narrowed := true }
def FnSizeVarintBoundsUptoSaid : Prop := fnSizeVarintBoundsUptoRow.holds Try.pinned (OpenSpec.upto fnSizeVarintBoundsSpec)

/-- 'laws.FnExactSizeBytes', WHERE WHAT IT READS IS OF BULK AT MOST 1048576: true; the input reads as it did. -/
def fnExactSizeBytesUptoRow : OpenClaim := { program := "ytinlekencdfafaa", sum := "c071c664743983ee194117723bbccc0f1a90e06eb16abb7f751efaa581eaea00", func := "loop.example/pub-wirefields/laws.FnExactSizeBytes", spec := "fnExactSizeBytes", apart := false, narrowed := true }
def FnExactSizeBytesUptoSaid : Prop := fnExactSizeBytesUptoRow.holds Try.pinned (OpenSpec.upto fnExactSizeBytesSpec)

/-- 'laws.FnExactSizeTag', WHERE WHAT IT READS IS OF BULK AT MOST 1048576: true; the input reads as it did. -/
def fnExactSizeTagUptoRow : OpenClaim := { program := "ytinlekencdfafaa", sum := "c071c664743983ee194117723bbccc0f1a90e06eb16abb7f751efaa581eaea00", func := "loop.example/pub-wirefields/laws.FnExactSizeTag", spec := "fnExactSizeTag", apart := false, narrowed := true }
def FnExactSizeTagUptoSaid : Prop := fnExactSizeTagUptoRow.holds Try.pinned (OpenSpec.upto fnExactSizeTagSpec)

/-- 'laws.FnExactSizeGroup', WHERE WHAT IT READS IS OF BULK AT MOST 1048576: true; the input reads as it did. -/
def fnExactSizeGroupUptoRow : OpenClaim := { program := "ytinlekencdfafaa", sum := "c071c664743983ee194117723bbccc0f1a90e06eb16abb7f751efaa581eaea00", func := "loop.example/pub-wirefields/laws.FnExactSizeGroup", spec := "fnExactSizeGroup", apart := false, narrowed := true }
def FnExactSizeGroupUptoSaid : Prop := fnExactSizeGroupUptoRow.holds Try.pinned (OpenSpec.upto fnExactSizeGroupSpec)

/-- 'laws.FnExactAppendVarint', WHERE WHAT IT READS IS OF BULK AT MOST 1048576: true; the input reads as it did. -/
def fnExactAppendVarintUptoRow : OpenClaim := { program := "ytinlekencdfafaa", sum := "c071c664743983ee194117723bbccc0f1a90e06eb16abb7f751efaa581eaea00", func := "loop.example/pub-wirefields/laws.FnExactAppendVarint", spec := "fnExactAppendVarint", apart := false, narrowed := true }
def FnExactAppendVarintUptoSaid : Prop := fnExactAppendVarintUptoRow.holds Try.pinned (OpenSpec.upto fnExactAppendVarintSpec)

/-- 'laws.FnExactAppendBytes', WHERE WHAT IT READS IS OF BULK AT MOST 1048576: true; the input reads as it did. -/
def fnExactAppendBytesUptoRow : OpenClaim := { program := "ytinlekencdfafaa", sum := "c071c664743983ee194117723bbccc0f1a90e06eb16abb7f751efaa581eaea00", func := "loop.example/pub-wirefields/laws.FnExactAppendBytes", spec := "fnExactAppendBytes", apart := false, narrowed := true }
def FnExactAppendBytesUptoSaid : Prop := fnExactAppendBytesUptoRow.holds Try.pinned (OpenSpec.upto fnExactAppendBytesSpec)

/-- 'laws.FnExactAppendTag', WHERE WHAT IT READS IS OF BULK AT MOST 1048576: true; the input reads as it did. -/
def fnExactAppendTagUptoRow : OpenClaim := { program := "ytinlekencdfafaa", sum := "c071c664743983ee194117723bbccc0f1a90e06eb16abb7f751efaa581eaea00", func := "loop.example/pub-wirefields/laws.FnExactAppendTag", spec := "fnExactAppendTag", apart := false, narrowed := true }
def FnExactAppendTagUptoSaid : Prop := fnExactAppendTagUptoRow.holds Try.pinned (OpenSpec.upto fnExactAppendTagSpec)

/-- 'laws.FnExactAppendString', WHERE WHAT IT READS IS OF BULK AT MOST 1048576: true; the input reads as it did. -/
def fnExactAppendStringUptoRow : OpenClaim := { program := "ytinlekencdfafaa", sum := "c071c664743983ee194117723bbccc0f1a90e06eb16abb7f751efaa581eaea00", func := "loop.example/pub-wirefields/laws.FnExactAppendString", spec := "fnExactAppendString", apart := false, narrowed := true }
def FnExactAppendStringUptoSaid : Prop := fnExactAppendStringUptoRow.holds Try.pinned (OpenSpec.upto fnExactAppendStringSpec)

end Rows
end Go.Proofs.Ytinlekencdfafaa
