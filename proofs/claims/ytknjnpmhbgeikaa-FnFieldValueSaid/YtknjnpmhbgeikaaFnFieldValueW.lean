/-
  The walk of laws.FnFieldValue returns true for every []byte: a field is its tag and its value. No condition.
-/
import Derived.Test.YtknjnpmhbgeikaaRows
import Derived.WalkKit
import Derived.ProofKit
import Derived.OpenShut
import Derived.ShutString
import Derived.ChangeOld
import Derived.Below
import Derived.Test.YtknjnpmhbgeikaaVal
import Derived.Test.YtknjnpmhbgeikaaRead
import Derived.Test.YtknjnpmhbgeikaaArg
namespace Go.Proofs.Ytknjnpmhbgeikaa.fnFieldValue
open Go.ChangeShapes Go.WideShapes Go.ChangeAt Go.RowKit
open Go.ChangeMaps (open_string shut_string)
set_option linter.unusedVariables false

def IsRow (k : IntKind) (w : World) (a : Option Addr) (len cap : Nat) (zs : List Int) : Prop :=
  (a = none ∧ len = 0 ∧ cap = 0 ∧ zs = []) ∨
  ∃ x, a = some x ∧ len ≤ cap ∧ cap ≤ maxLen ∧ zs.length = cap ∧ (∀ i, i < zs.length → w.cell? (x.add i) = some (.int k (zs.getD i 0))) ∧ ∀ n ∈ zs, (Lit.int k n).wf = true

theorem walk (a0 : Option Addr) (len0 cap0 : Nat) (z0 : List Int) (w : World) (w0 : IsRow .u8 w a0 len0 cap0 z0) :
    Calls Try.prog 10 #[.slice a0 len0 cap0] w fun e w' => e = .returned (.bool true) ∧ Below w.heap.size w w' := by
  obtain ⟨bs, hlen, hcap, hmax, hrd⟩ := mem.rd_of_row w0
  by_cases hbig : 2147483647 < len0
  · have hb : (2147483647 : Int) < (len0 : Int) := by omega
    have HR := bt.hide hrd
    clear hrd hlen w0
    go_enter Try.func10, Try.ntmps10
    go_wp2
    go_ret
    exact ⟨rfl, Below.refl _ _⟩
  have hb : ¬ (2147483647 : Int) < (len0 : Int) := by omega
  by_cases hten : 10000 < len0
  · have hb2 : (10000 : Int) < (len0 : Int) := by omega
    have hb2' : decide ((10000 : Int) < (len0 : Int)) = true := by simp; omega
    have HR := bt.hide hrd
    clear hrd hlen w0
    go_enter Try.func10, Try.ntmps10
    go_wp2
    go_ret
    exact ⟨rfl, Below.refl _ _⟩
  have hb2 : ¬ (10000 : Int) < (len0 : Int) := by omega
  have hb2' : decide ((10000 : Int) < (len0 : Int)) = false := by simp; omega
  have hm9 : len0 ≤ 9223372036854775807 := by omega
  have K1 := bt.hide (va.icfl a0 len0 cap0 bs w hrd hlen.symm hcap hmax)
  obtain ⟨i0, hi, hz0, hz1, hz2⟩ := info_parts co.info8
  rcases hv : pl.rtag bs with _ | ⟨a, kt, mt⟩
  · have K2 := bt.hide (fun (W : World) (hW : Below w.heap.size w W) => co.ict_no a0 len0 cap0 bs _ W (hrd.below hW) hlen.symm hm9 hv)
    have HF := bt.hide (va.F_none hv)
    clear hrd hlen hv w0 hi hz0 hz1 hz2
    go_enter Try.func10, Try.ntmps10
    go_wp2_with fail
    refine (K1.out).mono ?_
    rintro e w1 ⟨x, y, n, rfl, hb1, hok⟩
    rw [HF.out] at hok
    have hn0 : n < 0 := hok
    have B1 := bt.hide hb1
    clear hb1 hok
    go_wp2_with fail
    refine (K2.out _ B1.out).mono ?_
    rintro e w2 ⟨k, rfl, rfl, hk, _⟩
    go_wp2_with fail
    refine (co.works _).mono ?_
    rintro e w9 ⟨rfl, hb9⟩
    have HB9 := bt.hide (B1.out.trans (hb9.mono B1.out.size))
    clear hb9
    go_wp2_with fail
    go_ret
    exact ⟨rfl, HB9.out⟩
  · have hl := pl.rtag_len hv
    obtain ⟨ha1, ha2⟩ : 1 ≤ a ∧ a ≤ 2147483647 := by obtain ⟨_, _, _, _, h1, h2⟩ := pl.rtag_some hv; exact ⟨h1, h2⟩
    have hmt : mt ≤ len0 := by omega
    have hcc : len0 - mt ≤ cap0 - mt := by omega
    have K2 := bt.hide (fun (W : World) (hW : Below w.heap.size w W) => co.ict_yes a0 len0 cap0 bs _ W a kt mt (hrd.below hW) hlen.symm hm9 hv)
    have s1 := fun (W : World) => mem.run_cut (w := W) (A := a0) (n := len0) (c := cap0) Try.underlying23 hi hz1 mt hmt .i64
    have hdl : len0 - mt = (bs.drop mt).length := by rw [List.length_drop]; omega
    have K3 := bt.hide (fun (W : World) (hW : Below w.heap.size w W) => va.icfv (mem.cutA a0 cap0 mt) (len0 - mt) (cap0 - mt) (bs.drop mt) W a kt (((hrd.below hW).cut mt cap0 (by omega)).more hW.size) hdl hcc (by omega) (by omega) hl.2.2.2)
    have HF := bt.hide (va.F_tag hv)
    have HD := bt.hide hdl
    clear hrd hlen hv w0 hi hz0 hz1 hz2 hdl
    rcases hV : pl.V 10001 a kt (bs.drop mt) with _ | v
    · rw [hV] at HF K3
      clear hV
      go_enter Try.func10, Try.ntmps10
      go_wp2_with fail
      refine (K1.out).mono ?_
      rintro e w1 ⟨x, y, n, rfl, hb1, hok⟩
      rw [HF.out] at hok
      have hn0 : n < 0 := hok
      have B1 := bt.hide hb1
      clear hb1 hok
      go_wp2_with fail
      refine (K2.out _ B1.out).mono ?_
      rintro e w2 ⟨rfl, rfl⟩
      go_wp2_with fail
      refine (K3.out _ B1.out).mono ?_
      rintro e w2 ⟨r, rfl, hb2, hr⟩
      have hr0 : r < 0 := hr
      have B2 := bt.hide (B1.out.trans (hb2.mono B1.out.size))
      clear hb2 hr
      go_wp2_with fail
      refine (co.works _).mono ?_
      rintro e w9 ⟨rfl, hb9⟩
      have HB9 := bt.hide (B2.out.trans (hb9.mono B2.out.size))
      clear hb9
      go_wp2_with fail
      go_ret
      exact ⟨rfl, HB9.out⟩
    · have hvl := pl.V_len _ _ _ _ _ hV
      have hvm : v ≤ len0 - mt := by have := HD.out; omega
      rw [hV] at HF K3
      clear hV hvl
      go_enter Try.func10, Try.ntmps10
      go_wp2_with fail
      refine (K1.out).mono ?_
      rintro e w1 ⟨x, y, n, rfl, hb1, hok⟩
      rw [HF.out] at hok
      obtain ⟨rfl, rfl, rfl⟩ := hok
      have B1 := bt.hide hb1
      clear hb1
      simp only [Int.natCast_add]
      go_wp2_with fail
      refine (K2.out _ B1.out).mono ?_
      rintro e w2 ⟨rfl, rfl⟩
      go_wp2_with fail
      refine (K3.out _ B1.out).mono ?_
      rintro e w2 ⟨r, rfl, hb2, hr⟩
      obtain rfl : r = (v : Int) := hr
      have B2 := bt.hide (B1.out.trans (hb2.mono B1.out.size))
      clear hb2
      go_wp2_with fail
      refine (co.works _).mono ?_
      rintro e w9 ⟨rfl, hb9⟩
      have HB9 := bt.hide (B2.out.trans (hb9.mono B2.out.size))
      clear hb9
      go_wp2_with fail
      go_ret
      exact ⟨rfl, HB9.out⟩

end Go.Proofs.Ytknjnpmhbgeikaa.fnFieldValue
