/-
  The walk of laws.FnExactEncodeTag returns true for every int32 and int8: a tag is eight times the number, and the type, for numbers in 1..MaxNumber and types in 0..5. No condition.
-/
import Derived.Test.YtflldcfgiphggaaRows
import Derived.WalkKit
import Derived.ProofKit
import Derived.OpenShut
import Derived.ShutString
import Derived.Test.YtflldcfgiphggaaPure
namespace Go.Proofs.Ytflldcfgiphggaa.fnExactEncodeTag
open Go.ChangeShapes Go.WideShapes Go.ChangeAt Go.RowKit
open Go.ChangeMaps (open_string shut_string)
set_option linter.unusedVariables false

theorem walk (a0 : Int) (a1 : Int) (w0 : (Lit.int .i32 a0).wf = true) (w1 : (Lit.int .i8 a1).wf = true) (w : World) :
    Calls Try.prog 5 #[.int .i32 a0, .int .i8 a1] w fun e w' => e = .returned (.bool true) ∧ Grown w w' := by
  by_cases hn : 1 ≤ a0 ∧ a0 ≤ 536870911
  · obtain ⟨h0, h1⟩ := hn
    by_cases hk0 : a1 < 0
    · have hd : decide (a1 < 0) = true := by simpa using hk0
      go_enter Try.func5, Try.ntmps5
      go_wp2_with fail
      refine (pu.numOk_yes a0 _ h0 h1).mono ?_
      rintro e w' ⟨rfl, rfl⟩
      go_wp2_with fail
      go_ret
      exact ⟨rfl, by repeat (first | exact Grown.refl _ | apply Grown.drew | apply Grown.alloc)⟩
    · have hd : decide (a1 < 0) = false := by simpa using hk0
      by_cases hk1 : 5 < a1
      · have hd2 : decide (5 < a1) = true := by simpa using hk1
        go_enter Try.func5, Try.ntmps5
        go_wp2_with fail
        refine (pu.numOk_yes a0 _ h0 h1).mono ?_
        rintro e w' ⟨rfl, rfl⟩
        go_wp2_with fail
        go_ret
        exact ⟨rfl, by repeat (first | exact Grown.refl _ | apply Grown.drew | apply Grown.alloc)⟩
      · have hd2 : decide (5 < a1) = false := by simpa using hk1
        go_enter Try.func5, Try.ntmps5
        go_wp2_with fail
        refine (pu.numOk_yes a0 _ h0 h1).mono ?_
        rintro e w' ⟨rfl, rfl⟩
        go_wp2_with fail
        refine (pu.itag a0 a1 _ (by omega) (by omega) (by omega) (by omega)).mono ?_
        rintro e w' ⟨rfl, rfl⟩
        go_wp2_with fail
        refine (pu.stag a0 a1 _ (by omega) (by omega) (by omega) (by omega)).mono ?_
        rintro e w' ⟨rfl, rfl⟩
        go_wp2_with fail
        go_ret
        exact ⟨by simp, by repeat (first | exact Grown.refl _ | apply Grown.drew | apply Grown.alloc)⟩
  · go_enter Try.func5, Try.ntmps5
    go_wp2_with fail
    refine (pu.numOk_no a0 _ (by omega)).mono ?_
    rintro e w' ⟨rfl, rfl⟩
    go_wp2_with fail
    go_ret
    exact ⟨rfl, by repeat (first | exact Grown.refl _ | apply Grown.drew | apply Grown.alloc)⟩

end Go.Proofs.Ytflldcfgiphggaa.fnExactEncodeTag
