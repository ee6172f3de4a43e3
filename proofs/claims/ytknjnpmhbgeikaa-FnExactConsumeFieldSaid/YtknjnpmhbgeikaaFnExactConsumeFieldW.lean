/-
  The walk of laws.FnExactConsumeField returns true for every []byte: a field is parsed as the reference reads it. No condition.
-/
import Derived.Test.YtknjnpmhbgeikaaRows
import Derived.WalkKit
import Derived.ProofKit
import Derived.OpenShut
import Derived.ShutString
import Derived.ChangeOld
import Derived.Below
import Derived.Test.YtknjnpmhbgeikaaVal
import Derived.Test.YtknjnpmhbgeikaaRead
import Derived.Test.YtknjnpmhbgeikaaArg
namespace Go.Proofs.Ytknjnpmhbgeikaa.fnExactConsumeField
open Go.ChangeShapes Go.WideShapes Go.ChangeAt Go.RowKit
open Go.ChangeMaps (open_string shut_string)
set_option linter.unusedVariables false

def IsRow (k : IntKind) (w : World) (a : Option Addr) (len cap : Nat) (zs : List Int) : Prop :=
  (a = none ∧ len = 0 ∧ cap = 0 ∧ zs = []) ∨
  ∃ x, a = some x ∧ len ≤ cap ∧ cap ≤ maxLen ∧ zs.length = cap ∧ (∀ i, i < zs.length → w.cell? (x.add i) = some (.int k (zs.getD i 0))) ∧ ∀ n ∈ zs, (Lit.int k n).wf = true

theorem walk (a0 : Option Addr) (len0 cap0 : Nat) (z0 : List Int) (w : World) (w0 : IsRow .u8 w a0 len0 cap0 z0) :
    Calls Try.prog 7 #[.slice a0 len0 cap0] w fun e w' => e = .returned (.bool true) ∧ Below w.heap.size w w' := by
  obtain ⟨bs, hlen, hcap, hmax, hrd⟩ := mem.rd_of_row w0
  by_cases hbig : 2147483647 < len0
  · have hb : (2147483647 : Int) < (len0 : Int) := by omega
    have HR := bt.hide hrd
    clear hrd hlen w0
    go_enter Try.func7, Try.ntmps7
    go_wp2
    go_ret
    exact ⟨rfl, Below.refl _ _⟩
  have hb : ¬ (2147483647 : Int) < (len0 : Int) := by omega
  by_cases hten : 10000 < len0
  · have hb2 : (10000 : Int) < (len0 : Int) := by omega
    have hb2' : decide ((10000 : Int) < (len0 : Int)) = true := by simp; omega
    have HR := bt.hide hrd
    clear hrd hlen w0
    go_enter Try.func7, Try.ntmps7
    go_wp2
    go_ret
    exact ⟨rfl, Below.refl _ _⟩
  have hb2 : ¬ (10000 : Int) < (len0 : Int) := by omega
  have hb2' : decide ((10000 : Int) < (len0 : Int)) = false := by simp; omega
  have K1 := bt.hide (va.icfl a0 len0 cap0 bs w hrd hlen.symm hcap hmax)
  have K2 := bt.hide (fun (W : World) (hW : Below w.heap.size w W) => re.srfl a0 len0 cap0 bs _ W (hrd.below hW) hlen.symm hcap (by omega))
  have HE := bt.hide (show va.F bs = re.FA bs by
    unfold va.F re.FA
    cases ht : pl.rtag bs with
    | none => rfl
    | some x =>
      simp only
      rw [show re.VA x.1 x.2.1 (bs.drop x.2.2) = pl.V 10001 x.1 x.2.1 (bs.drop x.2.2) from pl.V_enough _ _ _ _ _ (by simp) (by simp; omega)])
  clear hrd hlen w0
  go_enter Try.func7, Try.ntmps7
  go_wp2_with fail
  refine (K1.out).mono ?_
  rintro e w1 ⟨a, k, n, rfl, hb1, hok⟩
  have B1 := bt.hide hb1
  have HO := bt.hide hok
  clear hb1 hok
  go_wp2_with fail
  refine (K2.out _ B1.out).mono ?_
  rintro e w2 ⟨a2, k2, n2, b, rfl, rfl, hok2⟩
  have h1 := HO.out
  rw [HE.out] at h1
  rcases hV : re.FA bs with _ | x
  · rw [hV] at h1 hok2
    subst hok2
    have hr0 : n < 0 := h1
    clear hV h1
    go_wp2_with fail
    refine (co.works _).mono ?_
    rintro e w9 ⟨rfl, hb9⟩
    have HB9 := bt.hide (B1.out.trans (hb9.mono B1.out.size))
    clear hb9
    go_wp2_with fail
    go_ret
    exact ⟨rfl, HB9.out⟩
  · rw [hV] at h1 hok2
    obtain ⟨rfl, rfl, rfl, rfl⟩ := hok2
    obtain ⟨rfl, rfl, rfl⟩ := h1
    clear hV
    go_wp2_with fail
    go_ret
    exact ⟨by simp, B1.out⟩

end Go.Proofs.Ytknjnpmhbgeikaa.fnExactConsumeField
