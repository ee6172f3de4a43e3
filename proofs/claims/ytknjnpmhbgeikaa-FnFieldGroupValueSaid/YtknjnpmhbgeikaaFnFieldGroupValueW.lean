/-
  The walk of laws.FnFieldGroupValue returns true for every int32 and []byte: a value that is a group is as long as the group. No condition.
-/
import Derived.Test.YtknjnpmhbgeikaaRows
import Derived.WalkKit
import Derived.ProofKit
import Derived.OpenShut
import Derived.ShutString
import Derived.ChangeOld
import Derived.Below
import Derived.Test.YtknjnpmhbgeikaaVal
import Derived.Test.YtknjnpmhbgeikaaRead
import Derived.Test.YtknjnpmhbgeikaaArg
import Derived.Test.YtknjnpmhbgeikaaGroup
namespace Go.Proofs.Ytknjnpmhbgeikaa.fnFieldGroupValue
open Go.ChangeShapes Go.WideShapes Go.ChangeAt Go.RowKit
open Go.ChangeMaps (open_string shut_string)
set_option linter.unusedVariables false

def IsRow (k : IntKind) (w : World) (a : Option Addr) (len cap : Nat) (zs : List Int) : Prop :=
  (a = none ∧ len = 0 ∧ cap = 0 ∧ zs = []) ∨
  ∃ x, a = some x ∧ len ≤ cap ∧ cap ≤ maxLen ∧ zs.length = cap ∧ (∀ i, i < zs.length → w.cell? (x.add i) = some (.int k (zs.getD i 0))) ∧ ∀ n ∈ zs, (Lit.int k n).wf = true

theorem walk (a0 : Int) (a1 : Option Addr) (len1 cap1 : Nat) (z1 : List Int) (w : World) (w0 : (Lit.int .i32 a0).wf = true) (w1 : IsRow .u8 w a1 len1 cap1 z1) :
    Calls Try.prog 11 #[.int .i32 a0, .slice a1 len1 cap1] w fun e w' => e = .returned (.bool true) ∧ Below w.heap.size w w' := by
  obtain ⟨bs, hlen, hcap, hmax, hrd⟩ := mem.rd_of_row w1
  by_cases hbig : 2147483647 < len1
  · have hb : (2147483647 : Int) < (len1 : Int) := by omega
    have HR := bt.hide hrd
    clear hrd hlen w0 w1
    go_enter Try.func11, Try.ntmps11
    go_wp2
    go_ret
    exact ⟨rfl, Below.refl _ _⟩
  have hb : ¬ (2147483647 : Int) < (len1 : Int) := by omega
  by_cases hten : 10000 < len1
  · have hb2 : (10000 : Int) < (len1 : Int) := by omega
    have hb2' : decide ((10000 : Int) < (len1 : Int)) = true := by simp; omega
    have HR := bt.hide hrd
    clear hrd hlen w0 w1
    go_enter Try.func11, Try.ntmps11
    go_wp2
    go_ret
    exact ⟨rfl, Below.refl _ _⟩
  have hb2 : ¬ (10000 : Int) < (len1 : Int) := by omega
  have hb2' : decide ((10000 : Int) < (len1 : Int)) = false := by simp; omega
  have hn32 : -2147483648 ≤ a0 ∧ a0 ≤ 2147483647 := by have := bounds_i32 w0; omega
  have K1 := va.icfv a1 len1 cap1 bs w a0 3 hrd hlen.symm hcap hmax hn32 (by decide)
  rw [pl.V_group] at K1
  rcases hG : pl.G 10001 a0 bs with _ | ⟨e, t⟩
  · rw [hG] at K1
    have K1 := bt.hide K1
    have K2 := bt.hide (fun (W : World) (hW : Below w.heap.size w W) => gr.icg_no a1 len1 cap1 bs W a0 ((hrd.below hW).more hW.size) hlen.symm hcap hmax hn32 hG)
    rename_i K0
    clear K0 hrd hlen w0 w1 hG hn32
    go_enter Try.func11, Try.ntmps11
    go_wp2_with fail
    refine (K1.out).mono ?_
    rintro e w1 ⟨r, rfl, hb1, hok⟩
    have hr0 : r < 0 := hok
    have hd1 : decide (r < 0) = true := by simpa using hr0
    have B1 := bt.hide hb1
    clear hb1 hok
    go_wp2_with fail
    refine (K2.out _ B1.out).mono ?_
    rintro e w2 ⟨k, ⟨v2, rfl, hown2, hbel2⟩, hk⟩
    have hd2 : decide (k < 0) = true := by simpa using hk
    have B2 := bt.hide (B1.out.trans (hbel2.mono B1.out.size))
    clear hown2 hbel2
    go_wp2_with fail
    refine (co.works _).mono ?_
    rintro e w9 ⟨rfl, hb9⟩
    have HB9 := bt.hide (B2.out.trans (hb9.mono B2.out.size))
    clear hb9
    go_wp2_with fail
    go_ret
    exact ⟨rfl, HB9.out⟩
  · rw [hG] at K1
    have hl := pl.grp_len _ _ _ _ _ _ hG
    have ht : (t : Int) ≤ (len1 : Int) := by omega
    have ht0 : ¬ (t : Int) < 0 := by omega
    have hd1 : decide ((t : Int) < 0) = false := by simp
    have K1 := bt.hide K1
    have K2 := bt.hide (fun (W : World) (hW : Below w.heap.size w W) => gr.icg_yes a1 len1 cap1 bs W a0 e t ((hrd.below hW).more hW.size) hlen.symm hcap hmax (by omega) hn32 hG)
    rename_i K0
    clear K0 hrd hlen w0 w1 hG hn32 hl
    go_enter Try.func11, Try.ntmps11
    go_wp2_with fail
    refine (K1.out).mono ?_
    rintro e w1 ⟨r, rfl, hb1, hok⟩
    obtain rfl : r = (t : Int) := hok
    have B1 := bt.hide hb1
    clear hb1
    go_wp2_with fail
    refine (K2.out _ B1.out).mono ?_
    rintro e w2 ⟨v2, rfl, hown2, hbel2⟩
    have B2 := bt.hide (B1.out.trans (hbel2.mono B1.out.size))
    clear hown2 hbel2
    go_wp2_with fail
    refine (co.works _).mono ?_
    rintro e w9 ⟨rfl, hb9⟩
    have HB9 := bt.hide (B2.out.trans (hb9.mono B2.out.size))
    clear hb9
    go_wp2_with fail
    go_ret
    exact ⟨rfl, HB9.out⟩

end Go.Proofs.Ytknjnpmhbgeikaa.fnFieldGroupValue
