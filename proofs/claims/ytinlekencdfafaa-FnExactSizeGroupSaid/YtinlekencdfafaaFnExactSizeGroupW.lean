/-
  The walk of laws.FnExactSizeGroup returns true for every int32 and int: the size of a group is that of its bytes, and of the tag of its end, for numbers in 1..MaxNumber and sizes in 0..2^40. No condition.
-/
import Derived.Test.YtinlekencdfafaaRows
import Derived.WalkKit
import Derived.ProofKit
import Derived.OpenShut
import Derived.ShutString
import Derived.ChangeOld
import Derived.Below
import Derived.Test.YtinlekencdfafaaSize2
import Derived.Test.YtinlekencdfafaaSpecW
namespace Go.Proofs.Ytinlekencdfafaa.fnExactSizeGroup
open Go.ChangeShapes Go.WideShapes Go.ChangeAt Go.RowKit
open Go.ChangeMaps (open_string shut_string)
set_option linter.unusedVariables false

def IsRow (k : IntKind) (w : World) (a : Option Addr) (len cap : Nat) (zs : List Int) : Prop :=
  (a = none ∧ len = 0 ∧ cap = 0 ∧ zs = []) ∨
  ∃ x, a = some x ∧ len ≤ cap ∧ cap ≤ maxLen ∧ zs.length = cap ∧ (∀ i, i < zs.length → w.cell? (x.add i) = some (.int k (zs.getD i 0))) ∧ ∀ n ∈ zs, (Lit.int k n).wf = true

theorem walk (a0 : Int) (a1 : Int) (w : World) (w0 : (Lit.int .i32 a0).wf = true) (w1 : (Lit.int .i64 a1).wf = true) :
    Calls Try.prog 10 #[.int .i32 a0, .int .i64 a1] w fun e w' => e = .returned (.bool true) ∧ Below w.heap.size w w' := by
  by_cases hn : 1 ≤ a0 ∧ a0 ≤ 536870911
  · obtain ⟨h0, h1⟩ := hn
    by_cases hk0 : a1 < 0
    · have hd : decide (a1 < 0) = true := by simpa using hk0
      go_enter Try.func10, Try.ntmps10
      go_wp2_with fail
      refine (pu.numOk_yes a0 _ h0 h1).mono ?_
      rintro e w' ⟨rfl, rfl⟩
      go_wp2_with fail
      go_ret
      exact ⟨rfl, Below.refl _ _⟩
    · have hd : decide (a1 < 0) = false := by simpa using hk0
      by_cases hk1 : 1099511627776 < a1
      · have hd2 : decide (1099511627776 < a1) = true := by simpa using hk1
        go_enter Try.func10, Try.ntmps10
        go_wp2_with fail
        refine (pu.numOk_yes a0 _ h0 h1).mono ?_
        rintro e w' ⟨rfl, rfl⟩
        go_wp2_with fail
        go_ret
        exact ⟨rfl, Below.refl _ _⟩
      · have hd2 : decide (1099511627776 < a1) = false := by simpa using hk1
        have K0 := bt.hide (fun (W : World) => pu.numOk_yes a0 W h0 h1)
        have K1 := bt.hide (fun (W : World) => sz.isg a0 a1 W (by omega) (by omega) (by omega) (by omega))
        have K2 := bt.hide (fun (W : World) => pu.stag a0 4 W (by omega) (by omega) (by omega) (by omega))
        have K3 := bt.hide (fun (W : World) => sw.svar W.heap.size (a0 * 8 + 4) W (by omega) (by omega) (Nat.le_refl _))
        have he : (a0 * 8 + 4).toNat = a0.toNat * 8 + 4 := by omega
        have hl := pl.enc_len_tag a0.toNat 4 (by decide)
        have hb := pl.enc_len_le (a0.toNat * 8)
        rw [he] at K3
        clear he
        rw [← hl] at K1 hb
        clear hl
        have hk0' : 0 ≤ a1 := by omega
        have hk1' : a1 ≤ 1099511627776 := by omega
        generalize pl.enc (a0.toNat * 8 + 4) = es at *
        go_enter Try.func10, Try.ntmps10
        go_wp2_with fail
        refine (K0.out _).mono ?_
        rintro e w' ⟨rfl, rfl⟩
        go_wp2_with fail
        refine (K1.out _).mono ?_
        rintro e w' ⟨rfl, rfl⟩
        go_wp2_with fail
        refine (K2.out _).mono ?_
        rintro e w' ⟨rfl, rfl⟩
        go_wp2_with fail
        refine (K3.out _).mono ?_
        rintro e w2 ⟨v2, rfl, hown2, hbel2⟩
        obtain ⟨A2, c2, rfl, _, _, _, _⟩ := hown2.form
        have B2 := bt.hide hbel2
        clear hown2 hbel2
        go_wp2_with fail
        go_ret
        exact ⟨by simp, B2.out⟩
  · go_enter Try.func10, Try.ntmps10
    go_wp2_with fail
    refine (pu.numOk_no a0 _ (by omega)).mono ?_
    rintro e w' ⟨rfl, rfl⟩
    go_wp2_with fail
    go_ret
    exact ⟨rfl, Below.refl _ _⟩

end Go.Proofs.Ytinlekencdfafaa.fnExactSizeGroup
