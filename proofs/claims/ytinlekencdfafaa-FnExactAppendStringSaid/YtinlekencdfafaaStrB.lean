/-
  A text turned into bytes: what it leaves in memory. Over no program's function.
-/
import Derived.Test.YtinlekencdfafaaAppend3
namespace Go.Proofs.Ytinlekencdfafaa.ap
open Go.RowKit
set_option linter.unusedVariables false
theorem bytesWorld_below (W : World) (e : TypeId) (s : ByteArray) : Below W.heap.size W (Lib.bytesWorld W e s) :=
  ⟨rfl, rfl, rfl, by rw [Lib.bytesWorld_size]; omega, fun k hk => Lib.bytesWorld_at_old W e s k hk⟩
theorem bytesWorld_rd (W : World) (e : TypeId) (s : ByteArray) : mem.Rd (Lib.bytesWorld W e s) (Lib.bytesWorld W e s).heap.size (some ⟨W.heap.size, 0, none⟩) (nums s) := by
  refine ⟨nums_byte s, fun _ => ⟨_, rfl, by rw [Lib.bytesWorld_size]; exact Nat.lt_succ_self _, fun j hj => ?_⟩⟩
  rw [nums_length] at hj
  rw [mem.add_none, Nat.zero_add, Lib.bytesWorld_cell W e s j hj]
  have hj' : j < s.data.toList.length := by rw [Array.length_toList]; exact hj
  unfold mem.bv nums
  rw [List.getD_eq_getElem?_getD, List.getD_eq_getElem?_getD, List.getElem?_map, List.getElem?_eq_getElem hj']
  rfl
/-- '[]byte(s)'. -/
theorem run_str (s : ByteArray) (W : World) : (convert 9 22 (.string s)).run Try.prog W = .ok (.slice (some ⟨W.heap.size, 0, none⟩) s.size (grownCap W s.size 0 5)) (Lib.bytesWorld W 5 s) :=
  Lib.run_convert_string_bytes W 9 22 5 s Try.underlying9 Try.underlying22 Try.underlying5
end Go.Proofs.Ytinlekencdfafaa.ap
