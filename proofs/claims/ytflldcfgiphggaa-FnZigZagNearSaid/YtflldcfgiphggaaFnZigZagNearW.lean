/-
  The walk of laws.FnZigZagNear returns true for every two int64: of two numbers, those below 0 counted from -1 on as the others are from 0 on, the smaller one has the smaller code. No condition.
-/
import Derived.Test.YtflldcfgiphggaaRows
import Derived.WalkKit
import Derived.ProofKit
import Derived.OpenShut
import Derived.ShutString
import Derived.Test.YtflldcfgiphggaaPure
namespace Go.Proofs.Ytflldcfgiphggaa.fnZigZagNear
open Go.ChangeShapes Go.WideShapes Go.ChangeAt Go.RowKit
open Go.ChangeMaps (open_string shut_string)
set_option linter.unusedVariables false

/-- The walk, the codes' numbers A and B known by their order alone; x, y: what the two numbers are behind the two tests. -/
theorem near_walk (a0 a1 X Y A B : Int) (w : World) (h0 : -9223372036854775808 ≤ a0) (h1 : a0 ≤ 9223372036854775807) (h2 : -9223372036854775808 ≤ a1) (h3 : a1 ≤ 9223372036854775807)
    (hA : Hid (bt.zig a0 = A)) (hB : Hid (bt.zig a1 = B)) (hx : a0 < 0 ∧ Hid (X = -(a0 + 1)) ∨ 0 ≤ a0 ∧ Hid (X = a0)) (hy : a1 < 0 ∧ Hid (Y = -(a1 + 1)) ∨ 0 ≤ a1 ∧ Hid (Y = a1))
    (hc : X < Y ∧ A < B ∨ Y < X ∧ B < A ∨ Hid (X = Y)) :
    Calls Try.prog 8 #[.int .i64 a0, .int .i64 a1] w fun e w' => e = .returned (.bool true) ∧ w = w' := by
  have HZ := bt.hide (show (bt.zig (-1) == 1) = true by decide)
  rcases hx with ⟨hx, ex⟩ | ⟨hx, ex⟩
  all_goals rcases hy with ⟨hy, ey⟩ | ⟨hy, ey⟩
  all_goals rcases hc with ⟨hc1, hc2⟩ | ⟨hc1, hc2⟩ | hc
  all_goals first | (have hc1 : X ≤ Y := Int.le_of_eq hc.out; have hc2 : Y ≤ X := Int.le_of_eq hc.out.symm) | skip
  all_goals rw [ex.out, ey.out] at hc1
  all_goals first | rw [ex.out, ey.out] at hc2 | skip
  all_goals
    go_enter Try.func8, Try.ntmps8
    go_wp2_with fail
    refine (pu.ienc a0 _ h0 h1).mono ?_
    rintro e w' ⟨rfl, rfl⟩
    rw [hA.out]
    go_wp2_with fail
    refine (pu.ienc a1 _ h2 h3).mono ?_
    rintro e w' ⟨rfl, rfl⟩
    rw [hB.out]
    go_wp2_with fail
    refine (pu.ienc (-1) _ (by decide) (by decide)).mono ?_
    rintro e w' ⟨rfl, rfl⟩
    have hz := HZ.out
    go_wp2_with fail
    go_ret
    exact ⟨rfl, rfl⟩

theorem walk (a0 : Int) (a1 : Int) (w0 : (Lit.int .i64 a0).wf = true) (w1 : (Lit.int .i64 a1).wf = true) (w : World) :
    Calls Try.prog 8 #[.int .i64 a0, .int .i64 a1] w fun e w' => e = .returned (.bool true) ∧ Grown w w' := by
  obtain ⟨h0, h1⟩ := bounds_i64 w0
  obtain ⟨h2, h3⟩ := bounds_i64 w1
  refine (near_walk a0 a1 (if a0 < 0 then -(a0 + 1) else a0) (if a1 < 0 then -(a1 + 1) else a1) _ _ w h0 h1 h2 h3 (bt.hide rfl) (bt.hide rfl) ?_ ?_ ?_).mono fun e w' ⟨he, hw⟩ => ⟨he, by subst hw; exact Grown.refl _⟩
  · by_cases h : a0 < 0
    · exact .inl ⟨h, bt.hide (if_pos h)⟩
    · exact .inr ⟨by omega, bt.hide (if_neg h)⟩
  · by_cases h : a1 < 0
    · exact .inl ⟨h, bt.hide (if_pos h)⟩
    · exact .inr ⟨by omega, bt.hide (if_neg h)⟩
  · unfold bt.zig Hid
    by_cases h4 : a0 < 0
    all_goals by_cases h5 : a1 < 0
    all_goals first | rw [if_pos h4, if_neg (by omega : ¬ 0 ≤ a0)] | rw [if_neg h4, if_pos (by omega : 0 ≤ a0)]
    all_goals first | rw [if_pos h5, if_neg (by omega : ¬ 0 ≤ a1)] | rw [if_neg h5, if_pos (by omega : 0 ≤ a1)]
    all_goals omega

end Go.Proofs.Ytflldcfgiphggaa.fnZigZagNear
