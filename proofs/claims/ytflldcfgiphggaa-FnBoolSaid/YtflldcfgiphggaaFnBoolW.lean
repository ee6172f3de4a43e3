/-
  The walk of laws.FnBool returns true for both bools: what is encoded is decoded. No condition.
-/
import Derived.Test.YtflldcfgiphggaaRows
import Derived.WalkKit
import Derived.ProofKit
import Derived.OpenShut
import Derived.ShutString
namespace Go.Proofs.Ytflldcfgiphggaa.fnBool
open Go.ChangeShapes Go.WideShapes Go.ChangeAt Go.RowKit
open Go.ChangeMaps (open_string shut_string)
set_option linter.unusedVariables false

theorem walk (a0 : Bool) (w : World) :
    Calls Try.prog 12 #[.bool a0] w fun e w' => e = .returned (.bool true) ∧ Grown w w' := by
  cases a0
  all_goals
    go_enter Try.func12, Try.ntmps12
    go_wp2
    go_ret
    exact ⟨rfl, Grown.refl _⟩

end Go.Proofs.Ytflldcfgiphggaa.fnBool
