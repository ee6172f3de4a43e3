/-
  NARROWER THAN 'FOR EVERY INPUT', by the rows' own cells (each row's printed sentence says how): FnGroupOther: loops · FnGroupCut: loops · FnGroup: loops · FnExactAppendGroup: loops · FnField: loops · FnFieldBytes: loops · FnFieldFixed32: loops · FnFieldFixed64: loops · FnFieldGroup: loops · FnFieldVarint: loops · FnFieldsAll: loops.
  DERIVED. THE GIVEN ROWS OF THIS SEAT. 11 by the template 'for every input the law returns true; each argument reads behind the call as it read before'; 0 by the template 'total and deterministic' (their statements: YtacdclkhhgjkbaaTotals.lean).
  GIVEN WITH THE SEED: the statements are not yours to turn. If you find one false, say at which input.
  Laid BY PROGRAM, IN A SANDBOX (cutbox-rows.mjs): the forced cells as the released guide's own fill.sh prints them over the translation d3c50d5631cf2be4… (all of the seat's roots in one cut). By AI agents, Wed Nov 11 2026. No macro, syntax, notation, axiom, sorry.
-/
import Derived.Test.YtacdclkhhgjkbaaChecked
import GoSem.Claim
import GoSem.ClaimJoined
import GoSem.ClaimMapViews
import Derived.JoinedTies
import Derived.KernelRfl
namespace Go.Proofs.Ytacdclkhhgjkbaa
/- THE CELL 'sum', in the pinned program and in every row, IS THE sha256 OF THE DUMP (.gsa) THAT YtacdclkhhgjkbaaProg.lean LOADS. Nothing in Lean hashes anything: it is a label: what it is worth is what the hold of that sum in a sandbox is worth. -/
noncomputable def Try.pinned : Pinned := { name := "ytacdclkhhgjkbaa", sum := "d3c50d5631cf2be40bf5a76c368c3010ab7df2cea77cefbb709b767873768069", checked := Try.checked }
namespace Rows
def none {H : Type} : Left H := { results := [], args := [] }

/-- 'laws.FnGroupOther': WHATEVER THE INPUT: true; the input reads as it did. -/
def fnGroupOtherSpec : ChangeSpec := { name := "fnGroupOther", fn := fun _ => fun
  | [d1, d2, d3] => { results := [.lit (.bool true)], args := [d1, d2, d3] }
  | _ => none }
def fnGroupOtherRow : OpenClaim := { program := "ytacdclkhhgjkbaa", sum := "d3c50d5631cf2be40bf5a76c368c3010ab7df2cea77cefbb709b767873768069", func := "loop.example/pub-wirefields/laws.FnGroupOther", spec := "fnGroupOther", recurses := true, loops := true, apart := false }
def FnGroupOtherSaid : Prop := fnGroupOtherRow.holds Try.pinned (OpenSpec.ofChange fnGroupOtherSpec)

/-- ITS FALSE NEIGHBOUR: 'it returns false'. Refute it at one input. -/
def fnGroupOtherWrong : ChangeSpec := { name := "fnGroupOther", fn := fun _ => fun
  | [d1, d2, d3] => { results := [.lit (.bool false)], args := [d1, d2, d3] }
  | _ => none }
def FnGroupOtherWrongFalsely : Prop := fnGroupOtherRow.holds Try.pinned (OpenSpec.ofChange fnGroupOtherWrong)

/-- 'laws.FnGroupCut': WHATEVER THE INPUT: true; the input reads as it did. -/
def fnGroupCutSpec : ChangeSpec := { name := "fnGroupCut", fn := fun _ => fun
  | [d1, d2, d3] => { results := [.lit (.bool true)], args := [d1, d2, d3] }
  | _ => none }
def fnGroupCutRow : OpenClaim := { program := "ytacdclkhhgjkbaa", sum := "d3c50d5631cf2be40bf5a76c368c3010ab7df2cea77cefbb709b767873768069", func := "loop.example/pub-wirefields/laws.FnGroupCut", spec := "fnGroupCut", recurses := true, loops := true, apart := false }
def FnGroupCutSaid : Prop := fnGroupCutRow.holds Try.pinned (OpenSpec.ofChange fnGroupCutSpec)

/-- ITS FALSE NEIGHBOUR: 'it returns false'. Refute it at one input. -/
def fnGroupCutWrong : ChangeSpec := { name := "fnGroupCut", fn := fun _ => fun
  | [d1, d2, d3] => { results := [.lit (.bool false)], args := [d1, d2, d3] }
  | _ => none }
def FnGroupCutWrongFalsely : Prop := fnGroupCutRow.holds Try.pinned (OpenSpec.ofChange fnGroupCutWrong)

/-- 'laws.FnGroup': WHATEVER THE INPUT: true; the input reads as it did. -/
def fnGroupSpec : ChangeSpec := { name := "fnGroup", fn := fun _ => fun
  | [d1, d2, d3] => { results := [.lit (.bool true)], args := [d1, d2, d3] }
  | _ => none }
def fnGroupRow : OpenClaim := { program := "ytacdclkhhgjkbaa", sum := "d3c50d5631cf2be40bf5a76c368c3010ab7df2cea77cefbb709b767873768069", func := "loop.example/pub-wirefields/laws.FnGroup", spec := "fnGroup", recurses := true, loops := true, apart := false }
def FnGroupSaid : Prop := fnGroupRow.holds Try.pinned (OpenSpec.ofChange fnGroupSpec)

/-- ITS FALSE NEIGHBOUR: 'it returns false'. Refute it at one input. -/
def fnGroupWrong : ChangeSpec := { name := "fnGroup", fn := fun _ => fun
  | [d1, d2, d3] => { results := [.lit (.bool false)], args := [d1, d2, d3] }
  | _ => none }
def FnGroupWrongFalsely : Prop := fnGroupRow.holds Try.pinned (OpenSpec.ofChange fnGroupWrong)

/-- 'laws.FnExactAppendGroup': WHATEVER THE INPUT: true; the input reads as it did. -/
def fnExactAppendGroupSpec : ChangeSpec := { name := "fnExactAppendGroup", fn := fun _ => fun
  | [d1, d2, d3] => { results := [.lit (.bool true)], args := [d1, d2, d3] }
  | _ => none }
def fnExactAppendGroupRow : OpenClaim := { program := "ytacdclkhhgjkbaa", sum := "d3c50d5631cf2be40bf5a76c368c3010ab7df2cea77cefbb709b767873768069", func := "loop.example/pub-wirefields/laws.FnExactAppendGroup", spec := "fnExactAppendGroup", recurses := true, loops := true, apart := false }
def FnExactAppendGroupSaid : Prop := fnExactAppendGroupRow.holds Try.pinned (OpenSpec.ofChange fnExactAppendGroupSpec)

/-- ITS FALSE NEIGHBOUR: 'it returns false'. Refute it at one input. -/
def fnExactAppendGroupWrong : ChangeSpec := { name := "fnExactAppendGroup", fn := fun _ => fun
  | [d1, d2, d3] => { results := [.lit (.bool false)], args := [d1, d2, d3] }
  | _ => none }
def FnExactAppendGroupWrongFalsely : Prop := fnExactAppendGroupRow.holds Try.pinned (OpenSpec.ofChange fnExactAppendGroupWrong)

/-- 'laws.FnField': WHATEVER THE INPUT: true; the input reads as it did. -/
def fnFieldSpec : ChangeSpec := { name := "fnField", fn := fun _ => fun
  | [d1, d2] => { results := [.lit (.bool true)], args := [d1, d2] }
  | _ => none }
def fnFieldRow : OpenClaim := { program := "ytacdclkhhgjkbaa", sum := "d3c50d5631cf2be40bf5a76c368c3010ab7df2cea77cefbb709b767873768069", func := "loop.example/pub-wirefields/laws.FnField", spec := "fnField", recurses := true, loops := true, apart := false }
def FnFieldSaid : Prop := fnFieldRow.holds Try.pinned (OpenSpec.ofChange fnFieldSpec)

/-- ITS FALSE NEIGHBOUR: 'it returns false'. Refute it at one input. -/
def fnFieldWrong : ChangeSpec := { name := "fnField", fn := fun _ => fun
  | [d1, d2] => { results := [.lit (.bool false)], args := [d1, d2] }
  | _ => none }
def FnFieldWrongFalsely : Prop := fnFieldRow.holds Try.pinned (OpenSpec.ofChange fnFieldWrong)

/-- 'laws.FnFieldBytes': WHATEVER THE INPUT: true; the input reads as it did. -/
def fnFieldBytesSpec : ChangeSpec := { name := "fnFieldBytes", fn := fun _ => fun
  | [d1, d2] => { results := [.lit (.bool true)], args := [d1, d2] }
  | _ => none }
def fnFieldBytesRow : OpenClaim := { program := "ytacdclkhhgjkbaa", sum := "d3c50d5631cf2be40bf5a76c368c3010ab7df2cea77cefbb709b767873768069", func := "loop.example/pub-wirefields/laws.FnFieldBytes", spec := "fnFieldBytes", recurses := true, loops := true, apart := false }
def FnFieldBytesSaid : Prop := fnFieldBytesRow.holds Try.pinned (OpenSpec.ofChange fnFieldBytesSpec)

/-- ITS FALSE NEIGHBOUR: 'it returns false'. Refute it at one input. -/
def fnFieldBytesWrong : ChangeSpec := { name := "fnFieldBytes", fn := fun _ => fun
  | [d1, d2] => { results := [.lit (.bool false)], args := [d1, d2] }
  | _ => none }
def FnFieldBytesWrongFalsely : Prop := fnFieldBytesRow.holds Try.pinned (OpenSpec.ofChange fnFieldBytesWrong)

/-- 'laws.FnFieldFixed32': WHATEVER THE INPUT: true; the input reads as it did. -/
def fnFieldFixed32Spec : ChangeSpec := { name := "fnFieldFixed32", fn := fun _ => fun
  | [d1, d2] => { results := [.lit (.bool true)], args := [d1, d2] }
  | _ => none }
def fnFieldFixed32Row : OpenClaim := { program := "ytacdclkhhgjkbaa", sum := "d3c50d5631cf2be40bf5a76c368c3010ab7df2cea77cefbb709b767873768069", func := "loop.example/pub-wirefields/laws.FnFieldFixed32", spec := "fnFieldFixed32", recurses := true, loops := true, apart := false }
def FnFieldFixed32Said : Prop := fnFieldFixed32Row.holds Try.pinned (OpenSpec.ofChange fnFieldFixed32Spec)

/-- ITS FALSE NEIGHBOUR: 'it returns false'. Refute it at one input. -/
def fnFieldFixed32Wrong : ChangeSpec := { name := "fnFieldFixed32", fn := fun _ => fun
  | [d1, d2] => { results := [.lit (.bool false)], args := [d1, d2] }
  | _ => none }
def FnFieldFixed32WrongFalsely : Prop := fnFieldFixed32Row.holds Try.pinned (OpenSpec.ofChange fnFieldFixed32Wrong)

/-- 'laws.FnFieldFixed64': WHATEVER THE INPUT: true; the input reads as it did. -/
def fnFieldFixed64Spec : ChangeSpec := { name := "fnFieldFixed64", fn := fun _ => fun
  | [d1, d2] => { results := [.lit (.bool true)], args := [d1, d2] }
  | _ => none }
def fnFieldFixed64Row : OpenClaim := { program := "ytacdclkhhgjkbaa", sum := "d3c50d5631cf2be40bf5a76c368c3010ab7df2cea77cefbb709b767873768069", func := "loop.example/pub-wirefields/laws.FnFieldFixed64", spec := "fnFieldFixed64", recurses := true, loops := true, apart := false }
def FnFieldFixed64Said : Prop := fnFieldFixed64Row.holds Try.pinned (OpenSpec.ofChange fnFieldFixed64Spec)

/-- ITS FALSE NEIGHBOUR: 'it returns false'. Refute it at one input. -/
def fnFieldFixed64Wrong : ChangeSpec := { name := "fnFieldFixed64", fn := fun _ => fun
  | [d1, d2] => { results := [.lit (.bool false)], args := [d1, d2] }
  | _ => none }
def FnFieldFixed64WrongFalsely : Prop := fnFieldFixed64Row.holds Try.pinned (OpenSpec.ofChange fnFieldFixed64Wrong)

/-- 'laws.FnFieldGroup': WHATEVER THE INPUT: true; the input reads as it did. -/
def fnFieldGroupSpec : ChangeSpec := { name := "fnFieldGroup", fn := fun _ => fun
  | [d1, d2] => { results := [.lit (.bool true)], args := [d1, d2] }
  | _ => none }
def fnFieldGroupRow : OpenClaim := { program := "ytacdclkhhgjkbaa", sum := "d3c50d5631cf2be40bf5a76c368c3010ab7df2cea77cefbb709b767873768069", func := "loop.example/pub-wirefields/laws.FnFieldGroup", spec := "fnFieldGroup", recurses := true, loops := true, apart := false }
def FnFieldGroupSaid : Prop := fnFieldGroupRow.holds Try.pinned (OpenSpec.ofChange fnFieldGroupSpec)

/-- ITS FALSE NEIGHBOUR: 'it returns false'. Refute it at one input. -/
def fnFieldGroupWrong : ChangeSpec := { name := "fnFieldGroup", fn := fun _ => fun
  | [d1, d2] => { results := [.lit (.bool false)], args := [d1, d2] }
  | _ => none }
def FnFieldGroupWrongFalsely : Prop := fnFieldGroupRow.holds Try.pinned (OpenSpec.ofChange fnFieldGroupWrong)

/-- 'laws.FnFieldVarint': WHATEVER THE INPUT: true; the input reads as it did. -/
def fnFieldVarintSpec : ChangeSpec := { name := "fnFieldVarint", fn := fun _ => fun
  | [d1, d2] => { results := [.lit (.bool true)], args := [d1, d2] }
  | _ => none }
def fnFieldVarintRow : OpenClaim := { program := "ytacdclkhhgjkbaa", sum := "d3c50d5631cf2be40bf5a76c368c3010ab7df2cea77cefbb709b767873768069", func := "loop.example/pub-wirefields/laws.FnFieldVarint", spec := "fnFieldVarint", recurses := true, loops := true, apart := false }
def FnFieldVarintSaid : Prop := fnFieldVarintRow.holds Try.pinned (OpenSpec.ofChange fnFieldVarintSpec)

/-- ITS FALSE NEIGHBOUR: 'it returns false'. Refute it at one input. -/
def fnFieldVarintWrong : ChangeSpec := { name := "fnFieldVarint", fn := fun _ => fun
  | [d1, d2] => { results := [.lit (.bool false)], args := [d1, d2] }
  | _ => none }
def FnFieldVarintWrongFalsely : Prop := fnFieldVarintRow.holds Try.pinned (OpenSpec.ofChange fnFieldVarintWrong)

/-- 'laws.FnFieldsAll': WHATEVER THE INPUT: true; the input reads as it did. -/
def fnFieldsAllSpec : ChangeSpec := { name := "fnFieldsAll", fn := fun _ => fun
  | [d] => { results := [.lit (.bool true)], args := [d] }
  | _ => none }
def fnFieldsAllRow : OpenClaim := { program := "ytacdclkhhgjkbaa", sum := "d3c50d5631cf2be40bf5a76c368c3010ab7df2cea77cefbb709b767873768069", func := "loop.example/pub-wirefields/laws.FnFieldsAll", spec := "fnFieldsAll", recurses := true, loops := true, apart := false }
def FnFieldsAllSaid : Prop := fnFieldsAllRow.holds Try.pinned (OpenSpec.ofChange fnFieldsAllSpec)

/-- ITS FALSE NEIGHBOUR: 'it returns false'. Refute it at one input. -/
def fnFieldsAllWrong : ChangeSpec := { name := "fnFieldsAll", fn := fun _ => fun
  | [d] => { results := [.lit (.bool false)], args := [d] }
  | _ => none }
def FnFieldsAllWrongFalsely : Prop := fnFieldsAllRow.holds Try.pinned (OpenSpec.ofChange fnFieldsAllWrong)

/- THE SECOND FORM. 'bulk': how many values and letters a reading holds, each counted each time it is reached (what is shared counts as often as it is met; a slice's spare places count too). A statement '..UptoSaid' is the law's where the arguments, and the package variables that the reading takes, are together of bulk at most 1048576: NARROWER than '..Said'. Prove '..Said' where nothing that the law and all that it calls make is longer than what came in: it says more and counts as full. Else prove '..UptoSaid'. A law counts once. -/
mutual
def uptoBulk {H : Type} : DataW H → Nat
  | .lit (.string bytes) => bytes.length + 1
  | .lit _ => 1
  | .nil => 1
  | .ptr d => uptoBulk d + 1
  | .slice elems spare => uptoBulkAll elems + uptoBulkAll spare + 1
  | .agg parts => uptoBulkAll parts + 1
  | .iface _ d => uptoBulk d + 1
  | .map entries => uptoBulkEntries entries + 1
  | .held _ => 1
def uptoBulkAll {H : Type} : List (DataW H) → Nat
  | [] => 0
  | d :: r => uptoBulk d + uptoBulkAll r
def uptoBulkEntries {H : Type} : List (Lit × DataW H) → Nat
  | [] => 0
  | x :: r => uptoBulkEntry x + uptoBulkEntries r
def uptoBulkEntry {H : Type} : Lit × DataW H → Nat
  | (.string bytes, d) => bytes.length + uptoBulk d + 1
  | (_, d) => uptoBulk d + 1
 end
def uptoSmall : (H : Type) → List (DataW H) → Bool := fun _ ds => decide (uptoBulkAll ds ≤ 1048576)
def OpenSpec.upto (s : _root_.Go.ChangeSpec) : _root_.Go.OpenSpec := { _root_.Go.OpenSpec.ofChange s with cond := some uptoSmall }

/-- 'laws.FnGroupOther', WHERE WHAT IT READS IS OF BULK AT MOST 1048576: true; the input reads as it did. -/
def fnGroupOtherUptoRow : OpenClaim := { program := "ytacdclkhhgjkbaa", sum := "d3c50d5631cf2be40bf5a76c368c3010ab7df2cea77cefbb709b767873768069", func := "loop.example/pub-wirefields/laws.FnGroupOther", spec := "fnGroupOther", recurses := true, loops := true, apart := false, narrowed := true }
def FnGroupOtherUptoSaid : Prop := fnGroupOtherUptoRow.holds Try.pinned (OpenSpec.upto fnGroupOtherSpec)

/-- 'laws.FnGroupCut', WHERE WHAT IT READS IS OF BULK AT MOST 1048576: true; the input reads as it did. -/
def fnGroupCutUptoRow : OpenClaim := { program := "ytacdclkhhgjkbaa", sum := "d3c50d5631cf2be40bf5a76c368c3010ab7df2cea77cefbb709b767873768069", func := "loop.example/pub-wirefields/laws.FnGroupCut", spec := "fnGroupCut", recurses := true, loops := true, apart := false, narrowed := true }
def FnGroupCutUptoSaid : Prop := fnGroupCutUptoRow.holds Try.pinned (OpenSpec.upto fnGroupCutSpec)

/-- 'laws.FnGroup', WHERE WHAT IT READS IS OF BULK AT MOST 1048576: true; the input reads as it did. -/
def fnGroupUptoRow : OpenClaim := { program := "ytacdclkhhgjkbaa", sum := "d3c50d5631cf2be40bf5a76c368c3010ab7df2cea77cefbb709b767873768069", func := "loop.example/pub-wirefields/laws.FnGroup", spec := "fnGroup", recurses := true, loops := true, apart := false, narrowed := true }
def FnGroupUptoSaid : Prop := fnGroupUptoRow.holds Try.pinned (OpenSpec.upto fnGroupSpec)

/-- 'laws.FnExactAppendGroup', WHERE WHAT IT READS IS OF BULK AT MOST 1048576: true; the input reads as it did. -/
def fnExactAppendGroupUptoRow : OpenClaim := { program := "ytacdclkhhgjkbaa", sum := "d3c50d5631cf2be40bf5a76c368c3010ab7df2cea77cefbb709b767873768069", func := "loop.example/pub-wirefields/laws.FnExactAppendGroup", spec := "fnExactAppendGroup", recurses := true, loops := true, apart := false, narrowed := true }
def FnExactAppendGroupUptoSaid : Prop := fnExactAppendGroupUptoRow.holds Try.pinned (OpenSpec.upto fnExactAppendGroupSpec)

/-- 'laws.FnField', WHERE WHAT IT READS IS OF BULK AT MOST 1048576: true; the input reads as it did. -/
def fnFieldUptoRow : OpenClaim := { program := "ytacdclkhhgjkbaa", sum := "d3c50d5631cf2be40bf5a76c368c3010ab7df2cea77cefbb709b767873768069", func := "loop.example/pub-wirefields/laws.FnField", spec := "fnField", recurses := true, loops := true, apart := false, narrowed := true }
def FnFieldUptoSaid : Prop := fnFieldUptoRow.holds Try.pinned (OpenSpec.upto fnFieldSpec)

/-- 'laws.FnFieldBytes', WHERE WHAT IT READS IS OF BULK AT MOST 1048576: true; the input reads as it did. -/
def fnFieldBytesUptoRow : OpenClaim := { program := "ytacdclkhhgjkbaa", sum := "d3c50d5631cf2be40bf5a76c368c3010ab7df2cea77cefbb709b767873768069", func := "loop.example/pub-wirefields/laws.FnFieldBytes", spec := "fnFieldBytes", recurses := true, loops := true, apart := false, narrowed := true }
def FnFieldBytesUptoSaid : Prop := fnFieldBytesUptoRow.holds Try.pinned (OpenSpec.upto fnFieldBytesSpec)

/-- 'laws.FnFieldFixed32', WHERE WHAT IT READS IS OF BULK AT MOST 1048576: true; the input reads as it did. -/
def fnFieldFixed32UptoRow : OpenClaim := { program := "ytacdclkhhgjkbaa", sum := "d3c50d5631cf2be40bf5a76c368c3010ab7df2cea77cefbb709b767873768069", func := "loop.example/pub-wirefields/laws.FnFieldFixed32", spec := "fnFieldFixed32", recurses := true, loops := true, apart := false, narrowed := true }
def FnFieldFixed32UptoSaid : Prop := fnFieldFixed32UptoRow.holds Try.pinned (OpenSpec.upto fnFieldFixed32Spec)

/-- 'laws.FnFieldFixed64', WHERE WHAT IT READS IS OF BULK AT MOST 1048576: true; the input reads as it did. -/
def fnFieldFixed64UptoRow : OpenClaim := { program := "ytacdclkhhgjkbaa", sum := "d3c50d5631cf2be40bf5a76c368c3010ab7df2cea77cefbb709b767873768069", func := "loop.example/pub-wirefields/laws.FnFieldFixed64", spec := "fnFieldFixed64", recurses := true, loops := true, apart := false, narrowed := true }
def FnFieldFixed64UptoSaid : Prop := fnFieldFixed64UptoRow.holds Try.pinned (OpenSpec.upto fnFieldFixed64Spec)

/-- 'laws.FnFieldGroup', WHERE WHAT IT READS IS OF BULK AT MOST 1048576: true; the input reads as it did. -/
def fnFieldGroupUptoRow : OpenClaim := { program := "ytacdclkhhgjkbaa", sum := "d3c50d5631cf2be40bf5a76c368c3010ab7df2cea77cefbb709b767873768069", func := "loop.example/pub-wirefields/laws.FnFieldGroup", spec := "fnFieldGroup", recurses := true, loops := true, apart := false, narrowed := true }
def FnFieldGroupUptoSaid : Prop := fnFieldGroupUptoRow.holds Try.pinned (OpenSpec.upto fnFieldGroupSpec)

/-- 'laws.FnFieldVarint', WHERE WHAT IT READS IS OF BULK AT MOST 1048576: true; the input reads as it did. -/
def fnFieldVarintUptoRow : OpenClaim := { program := "ytacdclkhhgjkbaa", sum := "d3c50d5631cf2be40bf5a76c368c3010ab7df2cea77cefbb709b767873768069", func := "loop.example/pub-wirefields/laws.FnFieldVarint", spec := "fnFieldVarint", recurses := true, loops := true, apart := false, narrowed := true }
def FnFieldVarintUptoSaid : Prop := fnFieldVarintUptoRow.holds Try.pinned (OpenSpec.upto fnFieldVarintSpec)

/-- 'laws.FnFieldsAll', WHERE WHAT IT READS IS OF BULK AT MOST 1048576: true; the input reads as it did. -/
def fnFieldsAllUptoRow : OpenClaim := { program := "ytacdclkhhgjkbaa", sum := "d3c50d5631cf2be40bf5a76c368c3010ab7df2cea77cefbb709b767873768069", func := "loop.example/pub-wirefields/laws.FnFieldsAll", spec := "fnFieldsAll", recurses := true, loops := true, apart := false, narrowed := true }
def FnFieldsAllUptoSaid : Prop := fnFieldsAllUptoRow.holds Try.pinned (OpenSpec.upto fnFieldsAllSpec)

end Rows
end Go.Proofs.Ytacdclkhhgjkbaa
