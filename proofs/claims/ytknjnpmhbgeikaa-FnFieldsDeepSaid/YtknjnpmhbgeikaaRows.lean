/-
  No cell of these rows narrows 'for every input' (looked for: loops, veiled, ifaces, maps, wideKeys, modest, calm, conditions, laid).
  DERIVED. THE GIVEN ROWS OF THIS SEAT. 11 by the template 'for every input the law returns true; each argument reads behind the call as it read before'; 0 by the template 'total and deterministic' (their statements: YtknjnpmhbgeikaaTotals.lean).
  GIVEN WITH THE SEED: the statements are not yours to turn. If you find one false, say at which input.
  Laid BY PROGRAM, IN A SANDBOX (cutbox-rows.mjs): the forced cells as the released guide's own fill.sh prints them over the translation ae8a12bcd69d4066… (all of the seat's roots in one cut). By AI agents, Wed Nov 11 2026. No macro, syntax, notation, axiom, sorry.
-/
import Derived.Test.YtknjnpmhbgeikaaChecked
import GoSem.Claim
import GoSem.ClaimJoined
import GoSem.ClaimMapViews
import Derived.JoinedTies
import Derived.KernelRfl
namespace Go.Proofs.Ytknjnpmhbgeikaa
/- THE CELL 'sum', in the pinned program and in every row, IS THE sha256 OF THE DUMP (.gsa) THAT YtknjnpmhbgeikaaProg.lean LOADS. Nothing in Lean hashes anything: it is a label: what it is worth is what the hold of that sum in a sandbox is worth. -/
noncomputable def Try.pinned : Pinned := { name := "ytknjnpmhbgeikaa", sum := "ae8a12bcd69d406632a1e54060a4142f06a51cb4e7332a35c811ca9fab6f9869", checked := Try.checked }
namespace Rows
def none {H : Type} : Left H := { results := [], args := [] }

/-- 'laws.FnVarint': WHATEVER THE INPUT: true; the input reads as it did. -/
def fnVarintSpec : ChangeSpec := { name := "fnVarint", fn := fun _ => fun
  | [d1, d2] => { results := [.lit (.bool true)], args := [d1, d2] }
  | _ => none }
def fnVarintRow : OpenClaim := { program := "ytknjnpmhbgeikaa", sum := "ae8a12bcd69d406632a1e54060a4142f06a51cb4e7332a35c811ca9fab6f9869", func := "loop.example/pub-wirefields/laws.FnVarint", spec := "fnVarint", apart := false }
def FnVarintSaid : Prop := fnVarintRow.holds Try.pinned (OpenSpec.ofChange fnVarintSpec)

/-- ITS FALSE NEIGHBOUR: 'it returns false'. Refute it at one input. -/
def fnVarintWrong : ChangeSpec := { name := "fnVarint", fn := fun _ => fun
  | [d1, d2] => { results := [.lit (.bool false)], args := [d1, d2] }
  | _ => none }
def FnVarintWrongFalsely : Prop := fnVarintRow.holds Try.pinned (OpenSpec.ofChange fnVarintWrong)

/-- 'laws.FnBytes': WHATEVER THE INPUT: true; the input reads as it did. -/
def fnBytesSpec : ChangeSpec := { name := "fnBytes", fn := fun _ => fun
  | [d1, d2] => { results := [.lit (.bool true)], args := [d1, d2] }
  | _ => none }
def fnBytesRow : OpenClaim := { program := "ytknjnpmhbgeikaa", sum := "ae8a12bcd69d406632a1e54060a4142f06a51cb4e7332a35c811ca9fab6f9869", func := "loop.example/pub-wirefields/laws.FnBytes", spec := "fnBytes", apart := false }
def FnBytesSaid : Prop := fnBytesRow.holds Try.pinned (OpenSpec.ofChange fnBytesSpec)

/-- ITS FALSE NEIGHBOUR: 'it returns false'. Refute it at one input. -/
def fnBytesWrong : ChangeSpec := { name := "fnBytes", fn := fun _ => fun
  | [d1, d2] => { results := [.lit (.bool false)], args := [d1, d2] }
  | _ => none }
def FnBytesWrongFalsely : Prop := fnBytesRow.holds Try.pinned (OpenSpec.ofChange fnBytesWrong)

/-- 'laws.FnTag': WHATEVER THE INPUT: true; the input reads as it did. -/
def fnTagSpec : ChangeSpec := { name := "fnTag", fn := fun _ => fun
  | [d1, d2, d3] => { results := [.lit (.bool true)], args := [d1, d2, d3] }
  | _ => none }
def fnTagRow : OpenClaim := { program := "ytknjnpmhbgeikaa", sum := "ae8a12bcd69d406632a1e54060a4142f06a51cb4e7332a35c811ca9fab6f9869", func := "loop.example/pub-wirefields/laws.FnTag", spec := "fnTag", apart := false }
def FnTagSaid : Prop := fnTagRow.holds Try.pinned (OpenSpec.ofChange fnTagSpec)

/-- ITS FALSE NEIGHBOUR: 'it returns false'. Refute it at one input. -/
def fnTagWrong : ChangeSpec := { name := "fnTag", fn := fun _ => fun
  | [d1, d2, d3] => { results := [.lit (.bool false)], args := [d1, d2, d3] }
  | _ => none }
def FnTagWrongFalsely : Prop := fnTagRow.holds Try.pinned (OpenSpec.ofChange fnTagWrong)

/-- 'laws.FnExactConsumeFieldValue': WHATEVER THE INPUT: true; the input reads as it did. -/
def fnExactConsumeFieldValueSpec : ChangeSpec := { name := "fnExactConsumeFieldValue", fn := fun _ => fun
  | [d1, d2, d3] => { results := [.lit (.bool true)], args := [d1, d2, d3] }
  | _ => none }
def fnExactConsumeFieldValueRow : OpenClaim := { program := "ytknjnpmhbgeikaa", sum := "ae8a12bcd69d406632a1e54060a4142f06a51cb4e7332a35c811ca9fab6f9869", func := "loop.example/pub-wirefields/laws.FnExactConsumeFieldValue", spec := "fnExactConsumeFieldValue", recurses := true, apart := false }
def FnExactConsumeFieldValueSaid : Prop := fnExactConsumeFieldValueRow.holds Try.pinned (OpenSpec.ofChange fnExactConsumeFieldValueSpec)

/-- ITS FALSE NEIGHBOUR: 'it returns false'. Refute it at one input. -/
def fnExactConsumeFieldValueWrong : ChangeSpec := { name := "fnExactConsumeFieldValue", fn := fun _ => fun
  | [d1, d2, d3] => { results := [.lit (.bool false)], args := [d1, d2, d3] }
  | _ => none }
def FnExactConsumeFieldValueWrongFalsely : Prop := fnExactConsumeFieldValueRow.holds Try.pinned (OpenSpec.ofChange fnExactConsumeFieldValueWrong)

/-- 'laws.FnExactConsumeField': WHATEVER THE INPUT: true; the input reads as it did. -/
def fnExactConsumeFieldSpec : ChangeSpec := { name := "fnExactConsumeField", fn := fun _ => fun
  | [d] => { results := [.lit (.bool true)], args := [d] }
  | _ => none }
def fnExactConsumeFieldRow : OpenClaim := { program := "ytknjnpmhbgeikaa", sum := "ae8a12bcd69d406632a1e54060a4142f06a51cb4e7332a35c811ca9fab6f9869", func := "loop.example/pub-wirefields/laws.FnExactConsumeField", spec := "fnExactConsumeField", recurses := true, apart := false }
def FnExactConsumeFieldSaid : Prop := fnExactConsumeFieldRow.holds Try.pinned (OpenSpec.ofChange fnExactConsumeFieldSpec)

/-- ITS FALSE NEIGHBOUR: 'it returns false'. Refute it at one input. -/
def fnExactConsumeFieldWrong : ChangeSpec := { name := "fnExactConsumeField", fn := fun _ => fun
  | [d] => { results := [.lit (.bool false)], args := [d] }
  | _ => none }
def FnExactConsumeFieldWrongFalsely : Prop := fnExactConsumeFieldRow.holds Try.pinned (OpenSpec.ofChange fnExactConsumeFieldWrong)

/-- 'laws.FnFieldEnd': WHATEVER THE INPUT: true; the input reads as it did. -/
def fnFieldEndSpec : ChangeSpec := { name := "fnFieldEnd", fn := fun _ => fun
  | [d1, d2, d3] => { results := [.lit (.bool true)], args := [d1, d2, d3] }
  | _ => none }
def fnFieldEndRow : OpenClaim := { program := "ytknjnpmhbgeikaa", sum := "ae8a12bcd69d406632a1e54060a4142f06a51cb4e7332a35c811ca9fab6f9869", func := "loop.example/pub-wirefields/laws.FnFieldEnd", spec := "fnFieldEnd", recurses := true, apart := false }
def FnFieldEndSaid : Prop := fnFieldEndRow.holds Try.pinned (OpenSpec.ofChange fnFieldEndSpec)

/-- ITS FALSE NEIGHBOUR: 'it returns false'. Refute it at one input. -/
def fnFieldEndWrong : ChangeSpec := { name := "fnFieldEnd", fn := fun _ => fun
  | [d1, d2, d3] => { results := [.lit (.bool false)], args := [d1, d2, d3] }
  | _ => none }
def FnFieldEndWrongFalsely : Prop := fnFieldEndRow.holds Try.pinned (OpenSpec.ofChange fnFieldEndWrong)

/-- 'laws.FnFieldZero': WHATEVER THE INPUT: true; the input reads as it did. -/
def fnFieldZeroSpec : ChangeSpec := { name := "fnFieldZero", fn := fun _ => fun
  | [d1, d2] => { results := [.lit (.bool true)], args := [d1, d2] }
  | _ => none }
def fnFieldZeroRow : OpenClaim := { program := "ytknjnpmhbgeikaa", sum := "ae8a12bcd69d406632a1e54060a4142f06a51cb4e7332a35c811ca9fab6f9869", func := "loop.example/pub-wirefields/laws.FnFieldZero", spec := "fnFieldZero", recurses := true, apart := false }
def FnFieldZeroSaid : Prop := fnFieldZeroRow.holds Try.pinned (OpenSpec.ofChange fnFieldZeroSpec)

/-- ITS FALSE NEIGHBOUR: 'it returns false'. Refute it at one input. -/
def fnFieldZeroWrong : ChangeSpec := { name := "fnFieldZero", fn := fun _ => fun
  | [d1, d2] => { results := [.lit (.bool false)], args := [d1, d2] }
  | _ => none }
def FnFieldZeroWrongFalsely : Prop := fnFieldZeroRow.holds Try.pinned (OpenSpec.ofChange fnFieldZeroWrong)

/-- 'laws.FnFieldValue': WHATEVER THE INPUT: true; the input reads as it did. -/
def fnFieldValueSpec : ChangeSpec := { name := "fnFieldValue", fn := fun _ => fun
  | [d] => { results := [.lit (.bool true)], args := [d] }
  | _ => none }
def fnFieldValueRow : OpenClaim := { program := "ytknjnpmhbgeikaa", sum := "ae8a12bcd69d406632a1e54060a4142f06a51cb4e7332a35c811ca9fab6f9869", func := "loop.example/pub-wirefields/laws.FnFieldValue", spec := "fnFieldValue", recurses := true, apart := false }
def FnFieldValueSaid : Prop := fnFieldValueRow.holds Try.pinned (OpenSpec.ofChange fnFieldValueSpec)

/-- ITS FALSE NEIGHBOUR: 'it returns false'. Refute it at one input. -/
def fnFieldValueWrong : ChangeSpec := { name := "fnFieldValue", fn := fun _ => fun
  | [d] => { results := [.lit (.bool false)], args := [d] }
  | _ => none }
def FnFieldValueWrongFalsely : Prop := fnFieldValueRow.holds Try.pinned (OpenSpec.ofChange fnFieldValueWrong)

/-- 'laws.FnFieldGroupValue': WHATEVER THE INPUT: true; the input reads as it did. -/
def fnFieldGroupValueSpec : ChangeSpec := { name := "fnFieldGroupValue", fn := fun _ => fun
  | [d1, d2] => { results := [.lit (.bool true)], args := [d1, d2] }
  | _ => none }
def fnFieldGroupValueRow : OpenClaim := { program := "ytknjnpmhbgeikaa", sum := "ae8a12bcd69d406632a1e54060a4142f06a51cb4e7332a35c811ca9fab6f9869", func := "loop.example/pub-wirefields/laws.FnFieldGroupValue", spec := "fnFieldGroupValue", recurses := true, apart := false }
def FnFieldGroupValueSaid : Prop := fnFieldGroupValueRow.holds Try.pinned (OpenSpec.ofChange fnFieldGroupValueSpec)

/-- ITS FALSE NEIGHBOUR: 'it returns false'. Refute it at one input. -/
def fnFieldGroupValueWrong : ChangeSpec := { name := "fnFieldGroupValue", fn := fun _ => fun
  | [d1, d2] => { results := [.lit (.bool false)], args := [d1, d2] }
  | _ => none }
def FnFieldGroupValueWrongFalsely : Prop := fnFieldGroupValueRow.holds Try.pinned (OpenSpec.ofChange fnFieldGroupValueWrong)

/-- 'laws.FnExactConsumeGroup': WHATEVER THE INPUT: true; the input reads as it did. -/
def fnExactConsumeGroupSpec : ChangeSpec := { name := "fnExactConsumeGroup", fn := fun _ => fun
  | [d1, d2] => { results := [.lit (.bool true)], args := [d1, d2] }
  | _ => none }
def fnExactConsumeGroupRow : OpenClaim := { program := "ytknjnpmhbgeikaa", sum := "ae8a12bcd69d406632a1e54060a4142f06a51cb4e7332a35c811ca9fab6f9869", func := "loop.example/pub-wirefields/laws.FnExactConsumeGroup", spec := "fnExactConsumeGroup", recurses := true, apart := false }
def FnExactConsumeGroupSaid : Prop := fnExactConsumeGroupRow.holds Try.pinned (OpenSpec.ofChange fnExactConsumeGroupSpec)

/-- ITS FALSE NEIGHBOUR: 'it returns false'. Refute it at one input. -/
def fnExactConsumeGroupWrong : ChangeSpec := { name := "fnExactConsumeGroup", fn := fun _ => fun
  | [d1, d2] => { results := [.lit (.bool false)], args := [d1, d2] }
  | _ => none }
def FnExactConsumeGroupWrongFalsely : Prop := fnExactConsumeGroupRow.holds Try.pinned (OpenSpec.ofChange fnExactConsumeGroupWrong)

/-- 'laws.FnFieldsDeep': WHATEVER THE INPUT: true; the input reads as it did. -/
def fnFieldsDeepSpec : ChangeSpec := { name := "fnFieldsDeep", fn := fun _ => fun
  | [d1, d2] => { results := [.lit (.bool true)], args := [d1, d2] }
  | _ => none }
def fnFieldsDeepRow : OpenClaim := { program := "ytknjnpmhbgeikaa", sum := "ae8a12bcd69d406632a1e54060a4142f06a51cb4e7332a35c811ca9fab6f9869", func := "loop.example/pub-wirefields/laws.FnFieldsDeep", spec := "fnFieldsDeep", recurses := true, apart := false }
def FnFieldsDeepSaid : Prop := fnFieldsDeepRow.holds Try.pinned (OpenSpec.ofChange fnFieldsDeepSpec)

/-- ITS FALSE NEIGHBOUR: 'it returns false'. Refute it at one input. -/
def fnFieldsDeepWrong : ChangeSpec := { name := "fnFieldsDeep", fn := fun _ => fun
  | [d1, d2] => { results := [.lit (.bool false)], args := [d1, d2] }
  | _ => none }
def FnFieldsDeepWrongFalsely : Prop := fnFieldsDeepRow.holds Try.pinned (OpenSpec.ofChange fnFieldsDeepWrong)

/- THE SECOND FORM. 'bulk': how many values and letters a reading holds, each counted each time it is reached (what is shared counts as often as it is met; a slice's spare places count too). A statement '..UptoSaid' is the law's where the arguments, and the package variables that the reading takes, are together of bulk at most 1048576: NARROWER than '..Said'. Prove '..Said' where nothing that the law and all that it calls make is longer than what came in: it says more and counts as full. Else prove '..UptoSaid'. A law counts once. -/
mutual
def uptoBulk {H : Type} : DataW H → Nat
  | .lit (.string bytes) => bytes.length + 1
  | .lit _ => 1
  | .nil => 1
  | .ptr d => uptoBulk d + 1
  | .slice elems spare => uptoBulkAll elems + uptoBulkAll spare + 1
  | .agg parts => uptoBulkAll parts + 1
  | .iface _ d => uptoBulk d + 1
  | .map entries => uptoBulkEntries entries + 1
  | .held _ => 1
def uptoBulkAll {H : Type} : List (DataW H) → Nat
  | [] => 0
  | d :: r => uptoBulk d + uptoBulkAll r
def uptoBulkEntries {H : Type} : List (Lit × DataW H) → Nat
  | [] => 0
  | x :: r => uptoBulkEntry x + uptoBulkEntries r
def uptoBulkEntry {H : Type} : Lit × DataW H → Nat
  | (.string bytes, d) => bytes.length + uptoBulk d + 1
  | (_, d) => uptoBulk d + 1
 end
def uptoSmall : (H : Type) → List (DataW H) → Bool := fun _ ds => decide (uptoBulkAll ds ≤ 1048576)
def OpenSpec.upto (s : _root_.Go.ChangeSpec) : _root_.Go.OpenSpec := { _root_.Go.OpenSpec.ofChange s with cond := some uptoSmall }

/-- 'laws.FnVarint', WHERE WHAT IT READS IS OF BULK AT MOST 1048576: true; the input reads as it did. -/
def fnVarintUptoRow : OpenClaim := { program := "ytknjnpmhbgeikaa", sum := "ae8a12bcd69d406632a1e54060a4142f06a51cb4e7332a35c811ca9fab6f9869", func := "loop.example/pub-wirefields/laws.FnVarint", spec := "fnVarint", apart := false, narrowed := true }
def FnVarintUptoSaid : Prop := fnVarintUptoRow.holds Try.pinned (OpenSpec.upto fnVarintSpec)

/-- 'laws.FnBytes', WHERE WHAT IT READS IS OF BULK AT MOST 1048576: true; the input reads as it did. -/
def fnBytesUptoRow : OpenClaim := { program := "ytknjnpmhbgeikaa", sum := "ae8a12bcd69d406632a1e54060a4142f06a51cb4e7332a35c811ca9fab6f9869", func := "loop.example/pub-wirefields/laws.FnBytes", spec := "fnBytes", apart := false, narrowed := true }
def FnBytesUptoSaid : Prop := fnBytesUptoRow.holds Try.pinned (OpenSpec.upto fnBytesSpec)

/-- 'laws.FnTag', WHERE WHAT IT READS IS OF BULK AT MOST 1048576: true; the input reads as it did. -/
def fnTagUptoRow : OpenClaim := { program := "ytknjnpmhbgeikaa", sum := "ae8a12bcd69d406632a1e54060a4142f06a51cb4e7332a35c811ca9fab6f9869", func := "loop.example/pub-wirefields/laws.FnTag", spec := "fnTag", apart := false, narrowed := true }
def FnTagUptoSaid : Prop := fnTagUptoRow.holds Try.pinned (OpenSpec.upto fnTagSpec)

/-- 'laws.FnExactConsumeFieldValue', WHERE WHAT IT READS IS OF BULK AT MOST 1048576: true; the input reads as it did. -/
def fnExactConsumeFieldValueUptoRow : OpenClaim := { program := "ytknjnpmhbgeikaa", sum := "ae8a12bcd69d406632a1e54060a4142f06a51cb4e7332a35c811ca9fab6f9869", func := "loop.example/pub-wirefields/laws.FnExactConsumeFieldValue", spec := "fnExactConsumeFieldValue", recurses := true, apart := false, narrowed := true }
def FnExactConsumeFieldValueUptoSaid : Prop := fnExactConsumeFieldValueUptoRow.holds Try.pinned (OpenSpec.upto fnExactConsumeFieldValueSpec)

/-- 'laws.FnExactConsumeField', WHERE WHAT IT READS IS OF BULK AT MOST 1048576: true; the input reads as it did. -/
def fnExactConsumeFieldUptoRow : OpenClaim := { program := "ytknjnpmhbgeikaa", sum := "ae8a12bcd69d406632a1e54060a4142f06a51cb4e7332a35c811ca9fab6f9869", func := "loop.example/pub-wirefields/laws.FnExactConsumeField", spec := "fnExactConsumeField", recurses := true, apart := false, narrowed := true }
def FnExactConsumeFieldUptoSaid : Prop := fnExactConsumeFieldUptoRow.holds Try.pinned (OpenSpec.upto fnExactConsumeFieldSpec)

/-- 'laws.FnFieldEnd', WHERE WHAT IT READS IS OF BULK AT MOST 1048576: true; the input reads as it did. -/
def fnFieldEndUptoRow : OpenClaim := { program := "ytknjnpmhbgeikaa", sum := "ae8a12bcd69d406632a1e54060a4142f06a51cb4e7332a35c811ca9fab6f9869", func := "loop.example/pub-wirefields/laws.FnFieldEnd", spec := "fnFieldEnd", recurses := true, apart := false, narrowed := true }
def FnFieldEndUptoSaid : Prop := fnFieldEndUptoRow.holds Try.pinned (OpenSpec.upto fnFieldEndSpec)

/-- 'laws.FnFieldZero', WHERE WHAT IT READS IS OF BULK AT MOST 1048576: true; the input reads as it did. -/
def fnFieldZeroUptoRow : OpenClaim := { program := "ytknjnpmhbgeikaa", sum := "ae8a12bcd69d406632a1e54060a4142f06a51cb4e7332a35c811ca9fab6f9869", func := "loop.example/pub-wirefields/laws.FnFieldZero", spec := "fnFieldZero", recurses := true, apart := false, narrowed := true }
def FnFieldZeroUptoSaid : Prop := fnFieldZeroUptoRow.holds Try.pinned (OpenSpec.upto fnFieldZeroSpec)

/-- 'laws.FnFieldValue', WHERE WHAT IT READS IS OF BULK AT MOST 1048576: true; the input reads as it did. -/
def fnFieldValueUptoRow : OpenClaim := { program := "ytknjnpmhbgeikaa", sum := "ae8a12bcd69d406632a1e54060a4142f06a51cb4e7332a35c811ca9fab6f9869", func := "loop.example/pub-wirefields/laws.FnFieldValue", spec := "fnFieldValue", recurses := true, apart := false, narrowed := true }
def FnFieldValueUptoSaid : Prop := fnFieldValueUptoRow.holds Try.pinned (OpenSpec.upto fnFieldValueSpec)

/-- 'laws.FnFieldGroupValue', WHERE WHAT IT READS IS OF BULK AT MOST 1048576: true; the input reads as it did. -/
def fnFieldGroupValueUptoRow : OpenClaim := { program := "ytknjnpmhbgeikaa", sum := "ae8a12bcd69d406632a1e54060a4142f06a51cb4e7332a35c811ca9fab6f9869", func := "loop.example/pub-wirefields/laws.FnFieldGroupValue", spec := "fnFieldGroupValue", recurses := true, apart := false, narrowed := true }
def FnFieldGroupValueUptoSaid : Prop := fnFieldGroupValueUptoRow.holds Try.pinned (OpenSpec.upto fnFieldGroupValueSpec)

/-- 'laws.FnExactConsumeGroup', WHERE WHAT IT READS IS OF BULK AT MOST 1048576: true; the input reads as it did. -/
def fnExactConsumeGroupUptoRow : OpenClaim := { program := "ytknjnpmhbgeikaa", sum := "ae8a12bcd69d406632a1e54060a4142f06a51cb4e7332a35c811ca9fab6f9869", func := "loop.example/pub-wirefields/laws.FnExactConsumeGroup", spec := "fnExactConsumeGroup", recurses := true, apart := false, narrowed := true }
def FnExactConsumeGroupUptoSaid : Prop := fnExactConsumeGroupUptoRow.holds Try.pinned (OpenSpec.upto fnExactConsumeGroupSpec)

/-- 'laws.FnFieldsDeep', WHERE WHAT IT READS IS OF BULK AT MOST 1048576: true; the input reads as it did. -/
def fnFieldsDeepUptoRow : OpenClaim := { program := "ytknjnpmhbgeikaa", sum := "ae8a12bcd69d406632a1e54060a4142f06a51cb4e7332a35c811ca9fab6f9869", func := "loop.example/pub-wirefields/laws.FnFieldsDeep", spec := "fnFieldsDeep", recurses := true, apart := false, narrowed := true }
def FnFieldsDeepUptoSaid : Prop := fnFieldsDeepUptoRow.holds Try.pinned (OpenSpec.upto fnFieldsDeepSpec)

end Rows
end Go.Proofs.Ytknjnpmhbgeikaa
