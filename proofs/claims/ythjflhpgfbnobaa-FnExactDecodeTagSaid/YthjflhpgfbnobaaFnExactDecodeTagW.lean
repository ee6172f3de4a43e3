/-
  The walk of laws.FnExactDecodeTag returns true for every uint64: a tag is decoded to its number and type; the number is -1 if an int32 cannot hold it. No condition.
-/
import Derived.Test.YthjflhpgfbnobaaRows
import Derived.WalkKit
import Derived.ProofKit
import Derived.OpenShut
import Derived.ShutString
import Derived.Test.YthjflhpgfbnobaaSpecR2
import Derived.Outline
namespace Go.Proofs.Ythjflhpgfbnobaa.fnExactDecodeTag
open Go.ChangeShapes Go.WideShapes Go.ChangeAt Go.RowKit
open Go.ChangeMaps (open_string shut_string)
set_option linter.unusedVariables false

theorem walk (a0 : Int) (w0 : (Lit.int .u64 a0).wf = true) (w : World) :
    Calls Try.prog 8 #[.int .u64 a0] w fun e w' => e = .returned (.bool true) ∧ Grown w w' := by
  obtain ⟨h0, h1⟩ := bounds_u64 w0
  by_cases h8 : 2147483647 < a0 / 8
  · go_enter Try.func8, Try.ntmps8
    go_wp2_with fail
    refine (pu.idtag_no a0 _ h0 (by omega) h8).mono ?_
    rintro e w1 ⟨rfl, rfl⟩
    go_wp2_with fail
    go_ret
    exact ⟨rfl, by repeat (first | exact Grown.refl _ | apply Grown.drew | apply Grown.alloc)⟩
  · have h9 : a0 / 8 ≤ 2147483647 := by omega
    go_enter Try.func8, Try.ntmps8
    go_wp2_with fail
    refine (pu.idtag a0 _ h0 (by omega) h9).mono ?_
    rintro e w1 ⟨rfl, rfl⟩
    go_wp2_with fail
    refine (co.worksG _).mono ?_
    rintro e w1 ⟨rfl, hg⟩
    have HG := bt.hide hg
    clear hg
    go_wp2_with fail
    go_ret
    exact ⟨by simp, HG.out⟩

end Go.Proofs.Ythjflhpgfbnobaa.fnExactDecodeTag
