/-
  Contracts of the functions that compute with numbers alone.
-/
import Derived.Test.YtacdclkhhgjkbaaRows
import Derived.Test.YtacdclkhhgjkbaaBits
import Derived.WalkKit
namespace Go.Proofs.Ytacdclkhhgjkbaa.pu
open Go.RowKit
set_option linter.unusedVariables false

theorem ret_int {k : IntKind} {a b : Int} (h : a = b) : Ending.returned (.int k a) = .returned (.int k b) := by rw [h]
theorem ret_bool {a b : Bool} (h : a = b) : Ending.returned (.bool a) = .returned (.bool b) := by rw [h]

theorem wtag (a k : Int) (w : World) (h0 : 0 ≤ a) (h1 : a ≤ 2147483647) (h2 : 0 ≤ k) (h3 : k ≤ 7) : Calls Try.prog 34 #[.int .i32 a, .int .i8 k] w fun e w' => e = .returned (.int .u64 (a * 8 + k)) ∧ w = w' := by
  go_enter Try.func34, Try.ntmps34
  go_wp2
  go_ret
  exact ⟨ret_int (bt.tag_bits a k h0 h1 h2 h3), rfl⟩
theorem stag (a k : Int) (w : World) (h0 : 0 ≤ a) (h1 : a ≤ 2147483647) (h2 : 0 ≤ k) (h3 : k ≤ 7) : Calls Try.prog 22 #[.int .i32 a, .int .i8 k] w fun e w' => e = .returned (.int .u64 (a * 8 + k)) ∧ w = w' := by
  go_enter Try.func22, Try.ntmps22
  go_wp2
  go_ret
  exact ⟨rfl, rfl⟩
theorem wdtag_no (x : Int) (w : World) (h0 : 0 ≤ x) (h1 : x < 18446744073709551616) (h2 : 2147483647 < x / 8) : Calls Try.prog 40 #[.int .u64 x] w fun e w' => e = .returned (.tuple #[.int .i32 (-1), .int .i8 0]) ∧ w = w' := by
  go_enter Try.func40, Try.ntmps40
  go_wp2
  go_ret2
  exact ⟨rfl, rfl⟩
theorem wdtag (x : Int) (w : World) (h0 : 0 ≤ x) (h1 : x < 18446744073709551616) (h2 : x / 8 ≤ 2147483647) : Calls Try.prog 40 #[.int .u64 x] w fun e w' => e = .returned (.tuple #[.int .i32 (x / 8), .int .i8 (x % 8)]) ∧ w = w' := by
  go_enter Try.func40, Try.ntmps40
  go_wp2
  go_ret2
  rw [bt.kind_bits x h0 h1]
  exact ⟨rfl, rfl⟩
theorem numOk_yes (a : Int) (w : World) (h0 : 1 ≤ a) (h1 : a ≤ 536870911) : Calls Try.prog 14 #[.int .i32 a] w fun e w' => e = .returned (.bool true) ∧ w = w' := by
  have e1 : decide (a ≤ 536870911) = true := by simpa using h1
  go_enter Try.func14, Try.ntmps14
  go_wp2
  go_ret
  exact ⟨rfl, rfl⟩
theorem numOk_no (a : Int) (w : World) (h : a < 1 ∨ 536870911 < a) : Calls Try.prog 14 #[.int .i32 a] w fun e w' => e = .returned (.bool false) ∧ w = w' := by
  rcases h with h | h
  · have e1 : decide (1 ≤ a) = false := by simpa using h
    go_enter Try.func14, Try.ntmps14
    go_wp2
    go_ret
    exact ⟨rfl, rfl⟩
  · have e0 : decide (1 ≤ a) = true := by simp; omega
    have e1 : decide (a ≤ 536870911) = false := by simpa using h
    go_enter Try.func14, Try.ntmps14
    go_wp2
    go_ret
    exact ⟨rfl, rfl⟩

end Go.Proofs.Ytacdclkhhgjkbaa.pu
