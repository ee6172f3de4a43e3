/-
  The walk of laws.FnExactEncodeZigZag returns true for every int64: a number from 0 on is encoded as twice it, one below 0 as twice its distance from 0, less 1. No condition.
-/
import Derived.Test.YtflldcfgiphggaaRows
import Derived.WalkKit
import Derived.ProofKit
import Derived.OpenShut
import Derived.ShutString
import Derived.Test.YtflldcfgiphggaaPure
namespace Go.Proofs.Ytflldcfgiphggaa.fnExactEncodeZigZag
open Go.ChangeShapes Go.WideShapes Go.ChangeAt Go.RowKit
open Go.ChangeMaps (open_string shut_string)
set_option linter.unusedVariables false

theorem walk (a0 : Int) (w0 : (Lit.int .i64 a0).wf = true) (w : World) :
    Calls Try.prog 6 #[.int .i64 a0] w fun e w' => e = .returned (.bool true) ∧ Grown w w' := by
  obtain ⟨h0, h1⟩ := bounds_i64 w0
  have hr2 : (bt.zig (-1) == 1) = true := by decide
  have HR2 := bt.hide hr2
  clear hr2
  by_cases hx : a0 < 0
  · have hr : (bt.zig a0 == (-(a0 + 1)) * 2 + 1) = true := by unfold bt.zig; rw [if_neg (by omega)]; simp; omega
    have HR := bt.hide hr
    clear hr
    go_enter Try.func6, Try.ntmps6
    go_wp2_with fail
    refine (pu.ienc a0 _ h0 h1).mono ?_
    rintro e w' ⟨rfl, rfl⟩
    have hr := HR.out
    go_wp2_with fail
    refine (pu.ienc (-1) _ (by decide) (by decide)).mono ?_
    rintro e w' ⟨rfl, rfl⟩
    have hr2 := HR2.out
    go_wp2_with fail
    go_ret
    exact ⟨rfl, by repeat (first | exact Grown.refl _ | apply Grown.drew | apply Grown.alloc)⟩
  · have hr : (bt.zig a0 == a0 * 2) = true := by unfold bt.zig; rw [if_pos (by omega)]; simp; omega
    have HR := bt.hide hr
    clear hr
    go_enter Try.func6, Try.ntmps6
    go_wp2_with fail
    refine (pu.ienc a0 _ h0 h1).mono ?_
    rintro e w' ⟨rfl, rfl⟩
    have hr := HR.out
    go_wp2_with fail
    refine (pu.ienc (-1) _ (by decide) (by decide)).mono ?_
    rintro e w' ⟨rfl, rfl⟩
    have hr2 := HR2.out
    go_wp2_with fail
    go_ret
    exact ⟨rfl, by repeat (first | exact Grown.refl _ | apply Grown.drew | apply Grown.alloc)⟩

end Go.Proofs.Ytflldcfgiphggaa.fnExactEncodeZigZag
