/-
  The walk of laws.FnExactSizeBytes returns true for every int: the size of bytes is their number, and the size of this, for numbers in 0..2^40. No condition.
-/
import Derived.Test.YtinlekencdfafaaRows
import Derived.WalkKit
import Derived.ProofKit
import Derived.OpenShut
import Derived.ShutString
import Derived.ChangeOld
import Derived.Below
import Derived.Test.YtinlekencdfafaaSize2
import Derived.Test.YtinlekencdfafaaSpecW
namespace Go.Proofs.Ytinlekencdfafaa.fnExactSizeBytes
open Go.ChangeShapes Go.WideShapes Go.ChangeAt Go.RowKit
open Go.ChangeMaps (open_string shut_string)
set_option linter.unusedVariables false

def IsRow (k : IntKind) (w : World) (a : Option Addr) (len cap : Nat) (zs : List Int) : Prop :=
  (a = none ∧ len = 0 ∧ cap = 0 ∧ zs = []) ∨
  ∃ x, a = some x ∧ len ≤ cap ∧ cap ≤ maxLen ∧ zs.length = cap ∧ (∀ i, i < zs.length → w.cell? (x.add i) = some (.int k (zs.getD i 0))) ∧ ∀ n ∈ zs, (Lit.int k n).wf = true

theorem walk (a0 : Int) (w : World) (w0 : (Lit.int .i64 a0).wf = true) :
    Calls Try.prog 8 #[.int .i64 a0] w fun e w' => e = .returned (.bool true) ∧ Below w.heap.size w w' := by
  obtain ⟨h0, h1⟩ := bounds_i64 w0
  by_cases hn : a0 < 0
  · have hd : decide (a0 < 0) = true := by simpa using hn
    go_enter Try.func8, Try.ntmps8
    go_wp2
    go_ret
    exact ⟨rfl, Below.refl _ _⟩
  · have hd : decide (a0 < 0) = false := by simpa using hn
    by_cases hb : 1099511627776 < a0
    · have hd2 : decide (1099511627776 < a0) = true := by simpa using hb
      go_enter Try.func8, Try.ntmps8
      go_wp2
      go_ret
      exact ⟨rfl, Below.refl _ _⟩
    · have hd2 : decide (1099511627776 < a0) = false := by simpa using hb
      have hn' : 0 ≤ a0 := by omega
      have hb' : a0 ≤ 1099511627776 := by omega
      have K1 := bt.hide (fun (W : World) => sz.isb a0 W hn' hb')
      have K2 := bt.hide (fun (W : World) => sw.svar W.heap.size a0 W hn' (by omega) (Nat.le_refl _))
      have hl := pl.enc_len_le a0.toNat
      generalize pl.enc a0.toNat = es at *
      go_enter Try.func8, Try.ntmps8
      go_wp2_with fail
      refine (K1.out _).mono ?_
      rintro e w1 ⟨rfl, rfl⟩
      go_wp2_with fail
      refine (K2.out _).mono ?_
      rintro e w2 ⟨v2, rfl, hown2, hbel2⟩
      obtain ⟨A2, c2, rfl, _, _, _, _⟩ := hown2.form
      have B2 := bt.hide hbel2
      clear hown2 hbel2
      go_wp2_with fail
      go_ret
      exact ⟨by simp; omega, B2.out⟩

end Go.Proofs.Ytinlekencdfafaa.fnExactSizeBytes
