/-
  The walk of laws.FnTagCode returns true for every int32 and int8: a tag that is encoded is decoded, for numbers in 1..MaxNumber and types in 0..5. No condition.
-/
import Derived.Test.YtflldcfgiphggaaRows
import Derived.WalkKit
import Derived.ProofKit
import Derived.OpenShut
import Derived.ShutString
import Derived.Test.YtflldcfgiphggaaPure
namespace Go.Proofs.Ytflldcfgiphggaa.fnTagCode
open Go.ChangeShapes Go.WideShapes Go.ChangeAt Go.RowKit
open Go.ChangeMaps (open_string shut_string)
set_option linter.unusedVariables false

theorem walk (a0 : Int) (a1 : Int) (w0 : (Lit.int .i32 a0).wf = true) (w1 : (Lit.int .i8 a1).wf = true) (w : World) :
    Calls Try.prog 13 #[.int .i32 a0, .int .i8 a1] w fun e w' => e = .returned (.bool true) ∧ Grown w w' := by
  by_cases hn : 1 ≤ a0 ∧ a0 ≤ 536870911
  · obtain ⟨h0, h1⟩ := hn
    by_cases hk0 : a1 < 0
    · have hd : decide (a1 < 0) = true := by simpa using hk0
      go_enter Try.func13, Try.ntmps13
      go_wp2_with fail
      refine (pu.numOk_yes a0 _ h0 h1).mono ?_
      rintro e w' ⟨rfl, rfl⟩
      go_wp2_with fail
      go_ret
      exact ⟨rfl, Grown.refl _⟩
    · have hd : decide (a1 < 0) = false := by simpa using hk0
      by_cases hk1 : 5 < a1
      · have hd2 : decide (5 < a1) = true := by simpa using hk1
        go_enter Try.func13, Try.ntmps13
        go_wp2_with fail
        refine (pu.numOk_yes a0 _ h0 h1).mono ?_
        rintro e w' ⟨rfl, rfl⟩
        go_wp2_with fail
        go_ret
        exact ⟨rfl, Grown.refl _⟩
      · have hd2 : decide (5 < a1) = false := by simpa using hk1
        go_enter Try.func13, Try.ntmps13
        go_wp2_with fail
        refine (pu.numOk_yes a0 _ h0 h1).mono ?_
        rintro e w' ⟨rfl, rfl⟩
        go_wp2_with fail
        refine (pu.itag a0 a1 _ (by omega) (by omega) (by omega) (by omega)).mono ?_
        rintro e w' ⟨rfl, rfl⟩
        go_wp2_with fail
        refine (pu.idtag _ _ (by omega) (by omega) (by omega)).mono ?_
        rintro e w' ⟨rfl, rfl⟩
        rw [show (a0 * 8 + a1) / 8 = a0 by omega, show (a0 * 8 + a1) % 8 = a1 by omega]
        go_wp2_with fail
        go_ret
        exact ⟨by simp, Grown.refl _⟩
  · go_enter Try.func13, Try.ntmps13
    go_wp2_with fail
    refine (pu.numOk_no a0 _ (by omega)).mono ?_
    rintro e w' ⟨rfl, rfl⟩
    go_wp2_with fail
    go_ret
    exact ⟨rfl, Grown.refl _⟩

end Go.Proofs.Ytflldcfgiphggaa.fnTagCode
