/-
  The walk of laws.FnSizeVarintBounds returns true for every two uint64: the size of a number is in 1..10, and grows with the number. No condition.
-/
import Derived.Test.YtinlekencdfafaaRows
import Derived.WalkKit
import Derived.ProofKit
import Derived.OpenShut
import Derived.ShutString
import Derived.Test.YtinlekencdfafaaSize2
namespace Go.Proofs.Ytinlekencdfafaa.fnSizeVarintBounds
open Go.ChangeShapes Go.WideShapes Go.ChangeAt Go.RowKit
open Go.ChangeMaps (open_string shut_string)
set_option linter.unusedVariables false

theorem walk (a0 : Int) (a1 : Int) (w0 : (Lit.int .u64 a0).wf = true) (w1 : (Lit.int .u64 a1).wf = true) (w : World) :
    Calls Try.prog 7 #[.int .u64 a0, .int .u64 a1] w fun e w' => e = .returned (.bool true) ∧ Grown w w' := by
  obtain ⟨h0, h1⟩ := bounds_u64 w0
  obtain ⟨h2, h3⟩ := bounds_u64 w1
  have K1 := bt.hide (fun (W : World) => sz.isv a0 W h0 (by omega))
  have K2 := bt.hide (fun (W : World) => sz.isv a1 W h2 (by omega))
  have l1 := pl.enc_len_pos a0.toNat
  have l2 := pl.enc_len_le a0.toNat
  have l3 : ¬ a1 < a0 → (pl.enc a0.toNat).length ≤ (pl.enc a1.toNat).length := fun h => pl.encF_mono 9 _ _ (by omega)
  generalize (pl.enc a0.toNat).length = s at *
  generalize (pl.enc a1.toNat).length = t at *
  have d1 : decide ((1 : Int) ≤ (s : Int)) = true := by simp; omega
  have d2 : decide ((s : Int) ≤ 10) = true := by simp; omega
  have d3 : decide (a1 < a0) = true ∨ (decide (a1 < a0) = false ∧ decide ((s : Int) ≤ (t : Int)) = true) := by
    by_cases h : a1 < a0
    · left; simpa using h
    · right; have := l3 h; simp; omega
  have d5 : decide (a1 < a0) = false → decide (s ≤ t) = true := fun h => by have := l3 (by simpa using h); simpa using this
  have D5 := bt.hide d5
  clear d5
  clear l3
  rcases d3 with d3 | ⟨d3, d4⟩
  all_goals
    go_enter Try.func7, Try.ntmps7
    go_wp2_with fail
    refine (K1.out _).mono ?_
    rintro e w1 ⟨rfl, rfl⟩
    go_wp2_with fail
    refine (K2.out _).mono ?_
    rintro e w2 ⟨rfl, rfl⟩
    go_wp2_with fail
    go_ret
    first | exact ⟨rfl, Grown.refl _⟩ | exact ⟨by simpa using D5.out (by assumption), Grown.refl _⟩

end Go.Proofs.Ytinlekencdfafaa.fnSizeVarintBounds
