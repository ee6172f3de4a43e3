/-
  The walk of laws.FnExactSizeVarint returns true for every uint64: the size of a number is how many bytes it has. No condition.
-/
import Derived.Test.YtinlekencdfafaaRows
import Derived.WalkKit
import Derived.ProofKit
import Derived.OpenShut
import Derived.ShutString
import Derived.ChangeOld
import Derived.Below
import Derived.Test.YtinlekencdfafaaSize2
import Derived.Test.YtinlekencdfafaaSpecW
namespace Go.Proofs.Ytinlekencdfafaa.fnExactSizeVarint
open Go.ChangeShapes Go.WideShapes Go.ChangeAt Go.RowKit
open Go.ChangeMaps (open_string shut_string)
set_option linter.unusedVariables false

def IsRow (k : IntKind) (w : World) (a : Option Addr) (len cap : Nat) (zs : List Int) : Prop :=
  (a = none ∧ len = 0 ∧ cap = 0 ∧ zs = []) ∨
  ∃ x, a = some x ∧ len ≤ cap ∧ cap ≤ maxLen ∧ zs.length = cap ∧ (∀ i, i < zs.length → w.cell? (x.add i) = some (.int k (zs.getD i 0))) ∧ ∀ n ∈ zs, (Lit.int k n).wf = true

theorem walk (a0 : Int) (w : World) (w0 : (Lit.int .u64 a0).wf = true) :
    Calls Try.prog 6 #[.int .u64 a0] w fun e w' => e = .returned (.bool true) ∧ Below w.heap.size w w' := by
  obtain ⟨h0, h1⟩ := bounds_u64 w0
  have K1 := bt.hide (fun (W : World) => sz.isv a0 W h0 (by omega))
  have K2 := bt.hide (fun (W : World) => sw.svar W.heap.size a0 W h0 (by omega) (Nat.le_refl _))
  go_enter Try.func6, Try.ntmps6
  go_wp2_with fail
  refine (K1.out _).mono ?_
  rintro e w1 ⟨rfl, rfl⟩
  go_wp2_with fail
  refine (K2.out _).mono ?_
  rintro e w2 ⟨v2, rfl, hown2, hbel2⟩
  obtain ⟨A2, c2, rfl, _, _, _, _⟩ := hown2.form
  have B2 := bt.hide hbel2
  clear hown2 hbel2
  go_wp2_with fail
  go_ret
  exact ⟨by simp, B2.out⟩

end Go.Proofs.Ytinlekencdfafaa.fnExactSizeVarint
