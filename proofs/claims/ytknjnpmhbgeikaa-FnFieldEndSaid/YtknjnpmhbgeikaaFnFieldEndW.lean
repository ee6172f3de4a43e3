/-
  The walk of laws.FnFieldEnd returns true for every int32, int8 and []byte: the end of a group, and a type that is none, is no field. No condition.
-/
import Derived.Test.YtknjnpmhbgeikaaRows
import Derived.WalkKit
import Derived.ProofKit
import Derived.OpenShut
import Derived.ShutString
import Derived.ChangeOld
import Derived.Below
import Derived.Test.YtknjnpmhbgeikaaVal
import Derived.Test.YtknjnpmhbgeikaaRead
import Derived.Test.YtknjnpmhbgeikaaArg
import Derived.Test.YtknjnpmhbgeikaaOwnNew
import Derived.Test.YtknjnpmhbgeikaaTree
import Derived.Test.YtknjnpmhbgeikaaSpecW
namespace Go.Proofs.Ytknjnpmhbgeikaa.fnFieldEnd
open Go.ChangeShapes Go.WideShapes Go.ChangeAt Go.RowKit
open Go.ChangeMaps (open_string shut_string)
set_option linter.unusedVariables false

def IsRow (k : IntKind) (w : World) (a : Option Addr) (len cap : Nat) (zs : List Int) : Prop :=
  (a = none ∧ len = 0 ∧ cap = 0 ∧ zs = []) ∨
  ∃ x, a = some x ∧ len ≤ cap ∧ cap ≤ maxLen ∧ zs.length = cap ∧ (∀ i, i < zs.length → w.cell? (x.add i) = some (.int k (zs.getD i 0))) ∧ ∀ n ∈ zs, (Lit.int k n).wf = true

theorem walk (a0 : Int) (a1 : Int) (a2 : Option Addr) (len2 cap2 : Nat) (z2 : List Int) (w : World) (w0 : (Lit.int .i32 a0).wf = true) (w1 : (Lit.int .i8 a1).wf = true) (w2 : IsRow .u8 w a2 len2 cap2 z2) :
    Calls Try.prog 8 #[.int .i32 a0, .int .i8 a1, .slice a2 len2 cap2] w fun e w' => e = .returned (.bool true) ∧ Below w.heap.size w w' := by
  obtain ⟨ms, hlen, hcap, hmax, hrd⟩ := mem.rd_of_row w2
  by_cases hbig : 2147483647 < len2
  · have hb : (2147483647 : Int) < (len2 : Int) := by omega
    have HR := bt.hide hrd
    clear hrd hlen w0 w1 w2
    go_enter Try.func8, Try.ntmps8
    go_wp2
    go_ret
    exact ⟨rfl, Below.refl _ _⟩
  have hb : ¬ (2147483647 : Int) < (len2 : Int) := by omega
  by_cases hnum : 1 ≤ a0 ∧ a0 ≤ 536870911
  rotate_left
  · have K0 := bt.hide (fun (W : World) => pu.numOk_no a0 W (by omega))
    have HR := bt.hide hrd
    clear hrd hlen w0 w1 w2
    go_enter Try.func8, Try.ntmps8
    go_wp2_with fail
    refine (K0.out _).mono ?_
    rintro e w' ⟨rfl, rfl⟩
    go_wp2_with fail
    go_ret
    exact ⟨rfl, Below.refl _ _⟩
  obtain ⟨g0, g1⟩ := hnum
  have K0 := bt.hide (fun (W : World) => pu.numOk_yes a0 W g0 g1)
  by_cases hk : a1 = 4 ∨ a1 = 6 ∨ a1 = 7
  rotate_left
  · have n4 : (a1 != 4) = true := by simp; omega
    have n6 : (a1 != 6) = true := by simp; omega
    have n7 : (a1 != 7) = true := by simp; omega
    have HR := bt.hide hrd
    clear hrd hlen w0 w1 w2
    clear hk
    go_enter Try.func8, Try.ntmps8
    go_wp2_with fail
    refine (K0.out _).mono ?_
    rintro e w' ⟨rfl, rfl⟩
    go_wp2_with fail
    go_ret
    exact ⟨rfl, Below.refl _ _⟩
  obtain ⟨i0, hi, hz0, hz1, hz2⟩ := info_parts co.info8
  have HM := bt.hide hrd
  have HLM := bt.hide hlen
  have H0 := bt.hide hz0
  have H1 := bt.hide hz1
  have H2 := bt.hide hz2
  have HI := bt.hide hi
  clear hz0 hz1 hz2 hi
  rcases hk with hk | hk | hk
  · subst hk
    have hv := pl.rtag_enc a0.toNat 4 ms (by omega) (by omega) (by omega)
    have hvi : ((a0.toNat : Nat) : Int) = a0 := Int.toNat_of_nonneg (by omega)
    have hX : (a0 * 8 + 4).toNat = a0.toNat * 8 + 4 := by omega
    have K1 := bt.hide (fun (W : World) => pu.stag a0 4 W (by omega) (by omega) (by decide) (by decide))
    have K2 := sw.svar w.heap.size (a0 * 8 + 4) w (by omega) (by omega) (Nat.le_refl _)
    rw [hX] at K2
    have hel := pl.enc_len_le (a0.toNat * 8 + 4)
    have HF := va.F_tag hv
    rw [hvi, pl.V_simple _ _ _ _ (by decide), show ∀ x, pl.simple 4 x = none from fun x => by simp [pl.simple]] at HF
    have K4 := bt.hide (fun (W : World) (hW : Below w.heap.size w W) => va.icfv a2 len2 cap2 ms W a0 4 ((hrd.below hW).more hW.size) hlen.symm hcap hmax (by omega) (by decide))
    rw [pl.V_simple _ _ _ _ (by decide), show pl.simple 4 ms = none from by simp [pl.simple]] at K4
    have HF := bt.hide HF
    have K2b := bt.hide K2
    generalize pl.enc (a0.toNat * 8 + 4) = X at *
    clear K2 hv hvi hX hrd hlen w0 w1 w2
    go_enter Try.func8, Try.ntmps8
    go_wp2_with fail
    refine (K0.out _).mono ?_
    rintro e w' ⟨rfl, rfl⟩
    go_wp2_with fail
    refine (K1.out _).mono ?_
    rintro e w' ⟨rfl, rfl⟩
    go_wp2_with fail
    refine (K2b.out).mono ?_
    rintro e w1 ⟨v1, rfl, hown1, hbel1⟩
    have HO1 := bt.hide hown1
    have B1 := bt.hide hbel1
    have B1s := bt.hide (show w.heap.size ≤ w1.heap.size from hbel1.size)
    clear hown1 hbel1
    go_wp2_with (at_builtin; refine mem.wpList_append_bytes _ rfl _ _ 23 rfl w.heap.size 5 i0 Try.underlying23 HI.out H0.out H1.out H2.out _ _ rfl HO1.out w.heap.size a2 len2 cap2 ms rfl HLM.out.symm ?c2 ?c3 ?c4 ?_)
    case c2 => exact HM.out.below B1.out
    case c3 => omega
    case c4 => exact B1s.out
    intro v3 w3 hown3 hbel3
    obtain ⟨A3, c3, rfl, hc3, hm3, hr3, _⟩ := hown3.form
    have B3 := bt.hide (B1.out.trans hbel3)
    have B3s := bt.hide (show w.heap.size ≤ w3.heap.size from B3.out.size)
    have K3 := bt.hide (va.icfl A3 _ c3 _ w3 hr3 rfl hc3 hm3)
    rw [HF.out] at K3
    simp only [List.length_append] at K3
    clear hr3 hown3 hbel3
    go_wp2_with fail
    refine (K3.out).mono ?_
    rintro e w4 ⟨x, y, n, rfl, hb4, hok⟩
    have hn0 : n < 0 := hok
    have B4 := bt.hide (B3.out.trans (hb4.mono B3s.out))
    clear hb4 hok
    go_wp2_with fail
    refine (K4.out _ B4.out).mono ?_
    rintro e w5 ⟨r, rfl, hb5, hok⟩
    have hr0 : r < 0 := hok
    have B5 := bt.hide (B4.out.trans (hb5.mono B4.out.size))
    clear hb5 hok
    go_wp2_with fail
    go_ret
    exact ⟨by simp, B5.out⟩
  · subst hk
    have hv := pl.rtag_enc a0.toNat 6 ms (by omega) (by omega) (by omega)
    have hvi : ((a0.toNat : Nat) : Int) = a0 := Int.toNat_of_nonneg (by omega)
    have hX : (a0 * 8 + 6).toNat = a0.toNat * 8 + 6 := by omega
    have K1 := bt.hide (fun (W : World) => pu.stag a0 6 W (by omega) (by omega) (by decide) (by decide))
    have K2 := sw.svar w.heap.size (a0 * 8 + 6) w (by omega) (by omega) (Nat.le_refl _)
    rw [hX] at K2
    have hel := pl.enc_len_le (a0.toNat * 8 + 6)
    have HF := va.F_tag hv
    rw [hvi, pl.V_simple _ _ _ _ (by decide), show ∀ x, pl.simple 6 x = none from fun x => by simp [pl.simple]] at HF
    have K4 := bt.hide (fun (W : World) (hW : Below w.heap.size w W) => va.icfv a2 len2 cap2 ms W a0 6 ((hrd.below hW).more hW.size) hlen.symm hcap hmax (by omega) (by decide))
    rw [pl.V_simple _ _ _ _ (by decide), show pl.simple 6 ms = none from by simp [pl.simple]] at K4
    have HF := bt.hide HF
    have K2b := bt.hide K2
    generalize pl.enc (a0.toNat * 8 + 6) = X at *
    clear K2 hv hvi hX hrd hlen w0 w1 w2
    go_enter Try.func8, Try.ntmps8
    go_wp2_with fail
    refine (K0.out _).mono ?_
    rintro e w' ⟨rfl, rfl⟩
    go_wp2_with fail
    refine (K1.out _).mono ?_
    rintro e w' ⟨rfl, rfl⟩
    go_wp2_with fail
    refine (K2b.out).mono ?_
    rintro e w1 ⟨v1, rfl, hown1, hbel1⟩
    have HO1 := bt.hide hown1
    have B1 := bt.hide hbel1
    have B1s := bt.hide (show w.heap.size ≤ w1.heap.size from hbel1.size)
    clear hown1 hbel1
    go_wp2_with (at_builtin; refine mem.wpList_append_bytes _ rfl _ _ 23 rfl w.heap.size 5 i0 Try.underlying23 HI.out H0.out H1.out H2.out _ _ rfl HO1.out w.heap.size a2 len2 cap2 ms rfl HLM.out.symm ?c2 ?c3 ?c4 ?_)
    case c2 => exact HM.out.below B1.out
    case c3 => omega
    case c4 => exact B1s.out
    intro v3 w3 hown3 hbel3
    obtain ⟨A3, c3, rfl, hc3, hm3, hr3, _⟩ := hown3.form
    have B3 := bt.hide (B1.out.trans hbel3)
    have B3s := bt.hide (show w.heap.size ≤ w3.heap.size from B3.out.size)
    have K3 := bt.hide (va.icfl A3 _ c3 _ w3 hr3 rfl hc3 hm3)
    rw [HF.out] at K3
    simp only [List.length_append] at K3
    clear hr3 hown3 hbel3
    go_wp2_with fail
    refine (K3.out).mono ?_
    rintro e w4 ⟨x, y, n, rfl, hb4, hok⟩
    have hn0 : n < 0 := hok
    have B4 := bt.hide (B3.out.trans (hb4.mono B3s.out))
    clear hb4 hok
    go_wp2_with fail
    refine (K4.out _ B4.out).mono ?_
    rintro e w5 ⟨r, rfl, hb5, hok⟩
    have hr0 : r < 0 := hok
    have B5 := bt.hide (B4.out.trans (hb5.mono B4.out.size))
    clear hb5 hok
    go_wp2_with fail
    go_ret
    exact ⟨by simp, B5.out⟩
  · subst hk
    have hv := pl.rtag_enc a0.toNat 7 ms (by omega) (by omega) (by omega)
    have hvi : ((a0.toNat : Nat) : Int) = a0 := Int.toNat_of_nonneg (by omega)
    have hX : (a0 * 8 + 7).toNat = a0.toNat * 8 + 7 := by omega
    have K1 := bt.hide (fun (W : World) => pu.stag a0 7 W (by omega) (by omega) (by decide) (by decide))
    have K2 := sw.svar w.heap.size (a0 * 8 + 7) w (by omega) (by omega) (Nat.le_refl _)
    rw [hX] at K2
    have hel := pl.enc_len_le (a0.toNat * 8 + 7)
    have HF := va.F_tag hv
    rw [hvi, pl.V_simple _ _ _ _ (by decide), show ∀ x, pl.simple 7 x = none from fun x => by simp [pl.simple]] at HF
    have K4 := bt.hide (fun (W : World) (hW : Below w.heap.size w W) => va.icfv a2 len2 cap2 ms W a0 7 ((hrd.below hW).more hW.size) hlen.symm hcap hmax (by omega) (by decide))
    rw [pl.V_simple _ _ _ _ (by decide), show pl.simple 7 ms = none from by simp [pl.simple]] at K4
    have HF := bt.hide HF
    have K2b := bt.hide K2
    generalize pl.enc (a0.toNat * 8 + 7) = X at *
    clear K2 hv hvi hX hrd hlen w0 w1 w2
    go_enter Try.func8, Try.ntmps8
    go_wp2_with fail
    refine (K0.out _).mono ?_
    rintro e w' ⟨rfl, rfl⟩
    go_wp2_with fail
    refine (K1.out _).mono ?_
    rintro e w' ⟨rfl, rfl⟩
    go_wp2_with fail
    refine (K2b.out).mono ?_
    rintro e w1 ⟨v1, rfl, hown1, hbel1⟩
    have HO1 := bt.hide hown1
    have B1 := bt.hide hbel1
    have B1s := bt.hide (show w.heap.size ≤ w1.heap.size from hbel1.size)
    clear hown1 hbel1
    go_wp2_with (at_builtin; refine mem.wpList_append_bytes _ rfl _ _ 23 rfl w.heap.size 5 i0 Try.underlying23 HI.out H0.out H1.out H2.out _ _ rfl HO1.out w.heap.size a2 len2 cap2 ms rfl HLM.out.symm ?c2 ?c3 ?c4 ?_)
    case c2 => exact HM.out.below B1.out
    case c3 => omega
    case c4 => exact B1s.out
    intro v3 w3 hown3 hbel3
    obtain ⟨A3, c3, rfl, hc3, hm3, hr3, _⟩ := hown3.form
    have B3 := bt.hide (B1.out.trans hbel3)
    have B3s := bt.hide (show w.heap.size ≤ w3.heap.size from B3.out.size)
    have K3 := bt.hide (va.icfl A3 _ c3 _ w3 hr3 rfl hc3 hm3)
    rw [HF.out] at K3
    simp only [List.length_append] at K3
    clear hr3 hown3 hbel3
    go_wp2_with fail
    refine (K3.out).mono ?_
    rintro e w4 ⟨x, y, n, rfl, hb4, hok⟩
    have hn0 : n < 0 := hok
    have B4 := bt.hide (B3.out.trans (hb4.mono B3s.out))
    clear hb4 hok
    go_wp2_with fail
    refine (K4.out _ B4.out).mono ?_
    rintro e w5 ⟨r, rfl, hb5, hok⟩
    have hr0 : r < 0 := hok
    have B5 := bt.hide (B4.out.trans (hb5.mono B4.out.size))
    clear hb5 hok
    go_wp2_with fail
    go_ret
    exact ⟨by simp, B5.out⟩

end Go.Proofs.Ytknjnpmhbgeikaa.fnFieldEnd
