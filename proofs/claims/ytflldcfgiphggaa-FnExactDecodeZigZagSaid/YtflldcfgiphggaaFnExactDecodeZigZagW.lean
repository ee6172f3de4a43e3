/-
  The walk of laws.FnExactDecodeZigZag returns true for every uint64: an even number is decoded as half of it, an odd one as half of one more, below 0. No condition.
-/
import Derived.Test.YtflldcfgiphggaaRows
import Derived.WalkKit
import Derived.ProofKit
import Derived.OpenShut
import Derived.ShutString
import Derived.Test.YtflldcfgiphggaaPure
namespace Go.Proofs.Ytflldcfgiphggaa.fnExactDecodeZigZag
open Go.ChangeShapes Go.WideShapes Go.ChangeAt Go.RowKit
open Go.ChangeMaps (open_string shut_string)
set_option linter.unusedVariables false

theorem walk (a0 : Int) (w0 : (Lit.int .u64 a0).wf = true) (w : World) :
    Calls Try.prog 4 #[.int .u64 a0] w fun e w' => e = .returned (.bool true) ∧ Grown w w' := by
  obtain ⟨h0, h1⟩ := bounds_u64 w0
  by_cases he : a0 % 2 = 1
  · have hb : (a0 % 2 == 1) = true := by simpa using he
    have hr : (bt.unzig a0 == -(a0 / 2) - 1) = true := by unfold bt.unzig; rw [if_neg (by omega)]; simp
    have hr2 : (bt.unzig 1 == -1) = true := by decide
    have HR := bt.hide hr
    have HR2 := bt.hide hr2
    clear hr hr2 he
    go_enter Try.func4, Try.ntmps4
    go_wp2_with fail
    refine (pu.idec a0 _ h0 (by omega)).mono ?_
    rintro e w' ⟨rfl, rfl⟩
    have hr := HR.out
    go_wp2_with fail
    refine (pu.idec 1 _ (by decide) (by decide)).mono ?_
    rintro e w' ⟨rfl, rfl⟩
    have hr2 := HR2.out
    go_wp2_with fail
    go_ret
    exact ⟨rfl, by repeat (first | exact Grown.refl _ | apply Grown.drew | apply Grown.alloc)⟩
  · have hb : (a0 % 2 == 1) = false := by simpa using he
    have hr : (bt.unzig a0 == a0 / 2) = true := by unfold bt.unzig; rw [if_pos (by omega)]; simp
    have hr2 : (bt.unzig 1 == -1) = true := by decide
    have HR := bt.hide hr
    have HR2 := bt.hide hr2
    clear hr hr2 he
    go_enter Try.func4, Try.ntmps4
    go_wp2_with fail
    refine (pu.idec a0 _ h0 (by omega)).mono ?_
    rintro e w' ⟨rfl, rfl⟩
    have hr := HR.out
    go_wp2_with fail
    refine (pu.idec 1 _ (by decide) (by decide)).mono ?_
    rintro e w' ⟨rfl, rfl⟩
    have hr2 := HR2.out
    go_wp2_with fail
    go_ret
    exact ⟨rfl, by repeat (first | exact Grown.refl _ | apply Grown.drew | apply Grown.alloc)⟩

end Go.Proofs.Ytflldcfgiphggaa.fnExactDecodeZigZag
