/-
  The walk of laws.FnZigZag returns true for every int64 and every uint64: encoding and decoding are inverse to each other. No condition.
-/
import Derived.Test.YtflldcfgiphggaaRows
import Derived.WalkKit
import Derived.ProofKit
import Derived.OpenShut
import Derived.ShutString
import Derived.Test.YtflldcfgiphggaaPure
namespace Go.Proofs.Ytflldcfgiphggaa.fnZigZag
open Go.ChangeShapes Go.WideShapes Go.ChangeAt Go.RowKit
open Go.ChangeMaps (open_string shut_string)
set_option linter.unusedVariables false

theorem unzig_zig (x : Int) : bt.unzig (bt.zig x) = x := by unfold bt.zig bt.unzig; split <;> (split <;> omega)
theorem zig_unzig (y : Int) (h : 0 ≤ y) : bt.zig (bt.unzig y) = y := by unfold bt.zig bt.unzig; split <;> (split <;> omega)
theorem zig_bd (x : Int) (h0 : -9223372036854775808 ≤ x) (h1 : x ≤ 9223372036854775807) : 0 ≤ bt.zig x ∧ bt.zig x < 18446744073709551616 := by unfold bt.zig; split <;> omega
theorem unzig_bd (y : Int) (h0 : 0 ≤ y) (h1 : y ≤ 18446744073709551615) : -9223372036854775808 ≤ bt.unzig y ∧ bt.unzig y ≤ 9223372036854775807 := by unfold bt.unzig; split <;> omega

theorem walk (a0 : Int) (a1 : Int) (w0 : (Lit.int .i64 a0).wf = true) (w1 : (Lit.int .u64 a1).wf = true) (w : World) :
    Calls Try.prog 11 #[.int .i64 a0, .int .u64 a1] w fun e w' => e = .returned (.bool true) ∧ Grown w w' := by
  obtain ⟨h0, h1⟩ := bounds_i64 w0
  obtain ⟨h2, h3⟩ := bounds_u64 w1
  have b0 := zig_bd a0 h0 h1
  have b1 := unzig_bd a1 h2 h3
  have hr : (bt.unzig 1 == -1) = true := by decide
  have HR := bt.hide hr
  have b2 := bt.hide b0
  have b3 := bt.hide b1
  clear hr b0 b1
  go_enter Try.func11, Try.ntmps11
  go_wp2_with fail
  refine (pu.ienc a0 _ h0 h1).mono ?_
  rintro e w' ⟨rfl, rfl⟩
  go_wp2_with fail
  refine (pu.idec _ _ b2.out.1 b2.out.2).mono ?_
  rintro e w' ⟨rfl, rfl⟩
  rw [unzig_zig]
  go_wp2_with fail
  refine (pu.idec a1 _ h2 (by omega)).mono ?_
  rintro e w' ⟨rfl, rfl⟩
  go_wp2_with fail
  refine (pu.ienc _ _ b3.out.1 b3.out.2).mono ?_
  rintro e w' ⟨rfl, rfl⟩
  rw [zig_unzig a1 h2]
  go_wp2_with fail
  refine (pu.idec 1 _ (by decide) (by decide)).mono ?_
  rintro e w' ⟨rfl, rfl⟩
  have hr := HR.out
  go_wp2_with fail
  go_ret
  exact ⟨rfl, Grown.refl _⟩

end Go.Proofs.Ytflldcfgiphggaa.fnZigZag
