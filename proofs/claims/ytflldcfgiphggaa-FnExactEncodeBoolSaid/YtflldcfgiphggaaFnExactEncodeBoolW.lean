/-
  The walk of laws.FnExactEncodeBool returns true for both bools: false is encoded as 0, and true as 1. No condition.
-/
import Derived.Test.YtflldcfgiphggaaRows
import Derived.WalkKit
import Derived.ProofKit
import Derived.OpenShut
import Derived.ShutString
namespace Go.Proofs.Ytflldcfgiphggaa.fnExactEncodeBool
open Go.ChangeShapes Go.WideShapes Go.ChangeAt Go.RowKit
open Go.ChangeMaps (open_string shut_string)
set_option linter.unusedVariables false

theorem walk (a0 : Bool) (w : World) :
    Calls Try.prog 9 #[.bool a0] w fun e w' => e = .returned (.bool true) ∧ Grown w w' := by
  cases a0
  all_goals
    go_enter Try.func9, Try.ntmps9
    go_wp2
    go_ret
    exact ⟨rfl, Grown.refl _⟩

end Go.Proofs.Ytflldcfgiphggaa.fnExactEncodeBool
