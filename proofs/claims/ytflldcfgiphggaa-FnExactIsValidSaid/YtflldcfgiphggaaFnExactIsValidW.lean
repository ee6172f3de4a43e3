/-
  The walk of laws.FnExactIsValid returns true for every int32: numbers in 1..MaxNumber are valid, others are not; of 19000..19999 it says nothing. No condition.
-/
import Derived.Test.YtflldcfgiphggaaRows
import Derived.WalkKit
import Derived.ProofKit
import Derived.OpenShut
import Derived.ShutString
import Derived.Test.YtflldcfgiphggaaPure
namespace Go.Proofs.Ytflldcfgiphggaa.fnExactIsValid
open Go.ChangeShapes Go.WideShapes Go.ChangeAt Go.RowKit
open Go.ChangeMaps (open_string shut_string)
set_option linter.unusedVariables false

theorem ivalid_yes (a : Int) (w : World) (h0 : 1 ≤ a) (h1 : a ≤ 536870911) : Calls Try.prog 21 #[.int .i32 a] w fun e w' => e = .returned (.bool true) ∧ w = w' := by
  go_enter Try.func21, Try.ntmps21
  go_wp2_with fail
  refine (pu.wvalid_yes a _ h0 h1).mono ?_
  rintro e w' ⟨rfl, rfl⟩
  go_wp2_with fail
  go_ret
  exact ⟨rfl, rfl⟩
theorem ivalid_no (a : Int) (w : World) (h : a < 1 ∨ 536870911 < a) : Calls Try.prog 21 #[.int .i32 a] w fun e w' => e = .returned (.bool false) ∧ w = w' := by
  go_enter Try.func21, Try.ntmps21
  go_wp2_with fail
  refine (pu.wvalid_no a _ h).mono ?_
  rintro e w' ⟨rfl, rfl⟩
  go_wp2_with fail
  go_ret
  exact ⟨rfl, rfl⟩

theorem walk (a0 : Int) (w0 : (Lit.int .i32 a0).wf = true) (w : World) :
    Calls Try.prog 7 #[.int .i32 a0] w fun e w' => e = .returned (.bool true) ∧ Grown w w' := by
  by_cases hr : 19000 ≤ a0 ∧ a0 ≤ 19999
  · have e1 : decide (19000 ≤ a0) = true := by simpa using hr.1
    have e2 : decide (a0 ≤ 19999) = true := by simpa using hr.2
    clear hr
    go_enter Try.func7, Try.ntmps7
    go_wp2_with fail
    go_ret
    exact ⟨rfl, Grown.refl _⟩
  · have hcase : decide (19000 ≤ a0) = false ∨ (decide (19000 ≤ a0) = true ∧ decide (a0 ≤ 19999) = false) := by
      by_cases h : 19000 ≤ a0
      · right; simp; omega
      · left; simpa using h
    clear hr
    by_cases hn : 1 ≤ a0 ∧ a0 ≤ 536870911
    · obtain ⟨h0, h1⟩ := hn
      rcases hcase with e1 | ⟨e1, e2⟩
      all_goals
        go_enter Try.func7, Try.ntmps7
        go_wp2_with fail
        refine (ivalid_yes a0 _ h0 h1).mono ?_
        rintro e w' ⟨rfl, rfl⟩
        go_wp2_with fail
        refine (pu.numOk_yes a0 _ h0 h1).mono ?_
        rintro e w' ⟨rfl, rfl⟩
        go_wp2_with fail
        refine (ivalid_yes 1 _ (by decide) (by decide)).mono ?_
        rintro e w' ⟨rfl, rfl⟩
        go_wp2_with fail
        go_ret
        exact ⟨rfl, Grown.refl _⟩
    · have hn2 : a0 < 1 ∨ 536870911 < a0 := by omega
      rcases hcase with e1 | ⟨e1, e2⟩
      all_goals
        go_enter Try.func7, Try.ntmps7
        go_wp2_with fail
        refine (ivalid_no a0 _ hn2).mono ?_
        rintro e w' ⟨rfl, rfl⟩
        go_wp2_with fail
        refine (pu.numOk_no a0 _ hn2).mono ?_
        rintro e w' ⟨rfl, rfl⟩
        go_wp2_with fail
        refine (ivalid_yes 1 _ (by decide) (by decide)).mono ?_
        rintro e w' ⟨rfl, rfl⟩
        go_wp2_with fail
        go_ret
        exact ⟨rfl, Grown.refl _⟩

end Go.Proofs.Ytflldcfgiphggaa.fnExactIsValid
