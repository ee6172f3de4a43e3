/-
  The walk of laws.FnExactConsumeFieldValue returns true for every int32, int8 and []byte: a field's value is as long as the reference reads it. No condition.
-/
import Derived.Test.YtknjnpmhbgeikaaRows
import Derived.WalkKit
import Derived.ProofKit
import Derived.OpenShut
import Derived.ShutString
import Derived.ChangeOld
import Derived.Below
import Derived.Test.YtknjnpmhbgeikaaVal
import Derived.Test.YtknjnpmhbgeikaaRead
import Derived.Test.YtknjnpmhbgeikaaArg
namespace Go.Proofs.Ytknjnpmhbgeikaa.fnExactConsumeFieldValue
open Go.ChangeShapes Go.WideShapes Go.ChangeAt Go.RowKit
open Go.ChangeMaps (open_string shut_string)
set_option linter.unusedVariables false

def IsRow (k : IntKind) (w : World) (a : Option Addr) (len cap : Nat) (zs : List Int) : Prop :=
  (a = none ∧ len = 0 ∧ cap = 0 ∧ zs = []) ∨
  ∃ x, a = some x ∧ len ≤ cap ∧ cap ≤ maxLen ∧ zs.length = cap ∧ (∀ i, i < zs.length → w.cell? (x.add i) = some (.int k (zs.getD i 0))) ∧ ∀ n ∈ zs, (Lit.int k n).wf = true

theorem walk (a0 : Int) (a1 : Int) (a2 : Option Addr) (len2 cap2 : Nat) (z2 : List Int) (w : World) (w0 : (Lit.int .i32 a0).wf = true) (w1 : (Lit.int .i8 a1).wf = true) (w2 : IsRow .u8 w a2 len2 cap2 z2) :
    Calls Try.prog 6 #[.int .i32 a0, .int .i8 a1, .slice a2 len2 cap2] w fun e w' => e = .returned (.bool true) ∧ Below w.heap.size w w' := by
  obtain ⟨bs, hlen, hcap, hmax, hrd⟩ := mem.rd_of_row w2
  by_cases hbig : 2147483647 < len2
  · have hb : (2147483647 : Int) < (len2 : Int) := by omega
    have HR := bt.hide hrd
    clear hrd hlen w0 w1 w2
    go_enter Try.func6, Try.ntmps6
    go_wp2
    go_ret
    exact ⟨rfl, Below.refl _ _⟩
  have hb : ¬ (2147483647 : Int) < (len2 : Int) := by omega
  by_cases hten : 10000 < len2
  · have hb2 : (10000 : Int) < (len2 : Int) := by omega
    have hb2' : decide ((10000 : Int) < (len2 : Int)) = true := by simp; omega
    have HR := bt.hide hrd
    clear hrd hlen w0 w1 w2
    go_enter Try.func6, Try.ntmps6
    go_wp2
    go_ret
    exact ⟨rfl, Below.refl _ _⟩
  have hb2 : ¬ (10000 : Int) < (len2 : Int) := by omega
  have hb2' : decide ((10000 : Int) < (len2 : Int)) = false := by simp; omega
  by_cases hnum : 1 ≤ a0 ∧ a0 ≤ 536870911
  rotate_left
  · have K0 := bt.hide (fun (W : World) => pu.numOk_no a0 W (by omega))
    have HR := bt.hide hrd
    clear hrd hlen w0 w1 w2
    go_enter Try.func6, Try.ntmps6
    go_wp2_with fail
    refine (K0.out _).mono ?_
    rintro e w' ⟨rfl, rfl⟩
    go_wp2_with fail
    go_ret
    exact ⟨rfl, Below.refl _ _⟩
  obtain ⟨g0, g1⟩ := hnum
  have K0 := bt.hide (fun (W : World) => pu.numOk_yes a0 W g0 g1)
  by_cases g2 : a1 < 0
  · have hd : decide (a1 < 0) = true := by simpa using g2
    have HR := bt.hide hrd
    clear hrd hlen w0 w1 w2
    go_enter Try.func6, Try.ntmps6
    go_wp2_with fail
    refine (K0.out _).mono ?_
    rintro e w' ⟨rfl, rfl⟩
    go_wp2_with fail
    go_ret
    exact ⟨rfl, Below.refl _ _⟩
  have hd : decide (a1 < 0) = false := by simpa using g2
  by_cases g3 : 7 < a1
  · have hd2 : decide (7 < a1) = true := by simpa using g3
    have HR := bt.hide hrd
    clear hrd hlen w0 w1 w2
    go_enter Try.func6, Try.ntmps6
    go_wp2_with fail
    refine (K0.out _).mono ?_
    rintro e w' ⟨rfl, rfl⟩
    go_wp2_with fail
    go_ret
    exact ⟨rfl, Below.refl _ _⟩
  have hd2 : decide (7 < a1) = false := by simpa using g3
  obtain ⟨kd, rfl⟩ := Int.eq_ofNat_of_zero_le (show 0 ≤ a1 by omega)
  have K1 := bt.hide (va.icfv a2 len2 cap2 bs w a0 kd hrd hlen.symm hcap hmax (by omega) (by omega))
  have K2 := bt.hide (fun (W : World) (hW : Below w.heap.size w W) => re.sva a2 len2 cap2 bs _ W a0 kd (hrd.below hW) hlen.symm hcap (by omega) (by omega) (by omega))
  have HE := bt.hide (show pl.V 10001 a0 kd bs = re.VA a0 kd bs from pl.V_enough _ _ _ _ bs (by omega) (by omega))
  clear hrd hlen w0 w1 w2
  go_enter Try.func6, Try.ntmps6
  go_wp2_with fail
  refine (K0.out _).mono ?_
  rintro e w' ⟨rfl, rfl⟩
  go_wp2_with fail
  refine (K1.out).mono ?_
  rintro e w1 ⟨r, rfl, hb1, hok⟩
  have B1 := bt.hide hb1
  have HO := bt.hide hok
  clear hb1 hok
  go_wp2_with fail
  refine (K2.out _ B1.out).mono ?_
  rintro e w2 ⟨r2, b, rfl, rfl, hr2, hok2⟩
  have h1 := HO.out
  rw [HE.out] at h1
  rcases hV : re.VA a0 kd bs with _ | v
  · rw [hV] at h1 hok2
    subst hok2
    have hr0 : r < 0 := h1
    clear hV h1
    go_wp2_with fail
    refine (co.works _).mono ?_
    rintro e w9 ⟨rfl, hb9⟩
    have HB9 := bt.hide (B1.out.trans (hb9.mono B1.out.size))
    clear hb9
    go_wp2_with fail
    go_ret
    exact ⟨rfl, HB9.out⟩
  · rw [hV] at h1 hok2
    obtain ⟨rfl, rfl⟩ := hok2
    have hr0 : r = (r2 : Int) := h1
    subst hr0
    clear hV h1
    go_wp2_with fail
    go_ret
    exact ⟨by simp, B1.out⟩

end Go.Proofs.Ytknjnpmhbgeikaa.fnExactConsumeFieldValue
