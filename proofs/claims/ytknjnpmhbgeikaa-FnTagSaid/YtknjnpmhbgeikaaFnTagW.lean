/-
  The walk of laws.FnTag returns true for every int32, int8 and []byte: a tag that is appended is parsed, whatever stands behind it, for numbers in 1..MaxNumber and types in 0..5. No condition.
-/
import Derived.Test.YtknjnpmhbgeikaaRows
import Derived.WalkKit
import Derived.ProofKit
import Derived.OpenShut
import Derived.ShutString
import Derived.ChangeOld
import Derived.Below
import Derived.Test.YtknjnpmhbgeikaaAppend3
import Derived.Test.YtknjnpmhbgeikaaPlainR
import Derived.Test.YtknjnpmhbgeikaaCons4
import Derived.Test.YtknjnpmhbgeikaaSize2
namespace Go.Proofs.Ytknjnpmhbgeikaa.fnTag
open Go.ChangeShapes Go.WideShapes Go.ChangeAt Go.RowKit
open Go.ChangeMaps (open_string shut_string)
set_option linter.unusedVariables false

def IsRow (k : IntKind) (w : World) (a : Option Addr) (len cap : Nat) (zs : List Int) : Prop :=
  (a = none ∧ len = 0 ∧ cap = 0 ∧ zs = []) ∨
  ∃ x, a = some x ∧ len ≤ cap ∧ cap ≤ maxLen ∧ zs.length = cap ∧ (∀ i, i < zs.length → w.cell? (x.add i) = some (.int k (zs.getD i 0))) ∧ ∀ n ∈ zs, (Lit.int k n).wf = true

theorem walk (a0 : Int) (a1 : Int) (a2 : Option Addr) (len2 cap2 : Nat) (z2 : List Int) (w : World) (w0 : (Lit.int .i32 a0).wf = true) (w1 : (Lit.int .i8 a1).wf = true) (w2 : IsRow .u8 w a2 len2 cap2 z2) :
    Calls Try.prog 5 #[.int .i32 a0, .int .i8 a1, .slice a2 len2 cap2] w fun e w' => e = .returned (.bool true) ∧ Below w.heap.size w w' := by
  obtain ⟨ms, hlenM, hcapM, hmaxM, hrdM⟩ := mem.rd_of_row w2
  by_cases hbig : 2147483647 < len2
  · have hb : (2147483647 : Int) < (len2 : Int) := by omega
    have HR := bt.hide hrdM
    clear hrdM hlenM w0 w1 w2
    go_enter Try.func5, Try.ntmps5
    go_wp2
    go_ret
    exact ⟨rfl, Below.refl _ _⟩
  · have hb : ¬ (2147483647 : Int) < (len2 : Int) := by omega
    by_cases hnum : 1 ≤ a0 ∧ a0 ≤ 536870911
    rotate_left
    · have K0 := bt.hide (fun (W : World) => pu.numOk_no a0 W (by omega))
      have HM0 := bt.hide hrdM
      clear hrdM hlenM w0 w1 w2
      go_enter Try.func5, Try.ntmps5
      go_wp2_with fail
      refine (K0.out _).mono ?_
      rintro e w' ⟨rfl, rfl⟩
      go_wp2_with fail
      go_ret
      exact ⟨rfl, Below.refl _ _⟩
    obtain ⟨g0, g1⟩ := hnum
    have K0 := bt.hide (fun (W : World) => pu.numOk_yes a0 W g0 g1)
    by_cases g2 : a1 < 0
    · have hd : decide (a1 < 0) = true := by simpa using g2
      have HM0 := bt.hide hrdM
      clear hrdM hlenM w0 w1 w2
      go_enter Try.func5, Try.ntmps5
      go_wp2_with fail
      refine (K0.out _).mono ?_
      rintro e w' ⟨rfl, rfl⟩
      go_wp2_with fail
      go_ret
      exact ⟨rfl, Below.refl _ _⟩
    have hd : decide (a1 < 0) = false := by simpa using g2
    by_cases g3 : 5 < a1
    · have hd2 : decide (5 < a1) = true := by simpa using g3
      have HM0 := bt.hide hrdM
      clear hrdM hlenM w0 w1 w2
      go_enter Try.func5, Try.ntmps5
      go_wp2_with fail
      refine (K0.out _).mono ?_
      rintro e w' ⟨rfl, rfl⟩
      go_wp2_with fail
      go_ret
      exact ⟨rfl, Below.refl _ _⟩
    have hd2 : decide (5 < a1) = false := by simpa using g3
    have hel := pl.enc_len_le (pl.tagN a0 a1)
    have ht := pl.enc_len_tag a0.toNat a1.toNat (by omega)
    have hv := pl.rtag_enc a0.toNat a1.toNat ms (by omega) (by omega) (by omega)
    have hvi : ((a0.toNat : Nat) : Int) = a0 := Int.toNat_of_nonneg (by omega)
    have hvj : ((a1.toNat : Nat) : Int) = a1 := Int.toNat_of_nonneg (by omega)
    have KS := bt.hide (fun (W : World) => sz.ist a0 W (by omega) (by omega))
    rw [← ht] at KS
    rw [show a0.toNat * 8 + a1.toNat = pl.tagN a0 a1 by unfold pl.tagN; omega] at KS hv
    clear w0 w1 w2 ht
    obtain ⟨i0, hi, hz0, hz1, hz2⟩ := info_parts co.info8
    have K1 := bt.hide (ap.iAppendTag none [] 0 0 a0 a1 w (by omega) (by omega) (by omega) (by omega) (mem.Rd.nil_ _ _ _) rfl (by simp))
    have HM := bt.hide hrdM
    have HLM := bt.hide hlenM
    have H0 := bt.hide hz0
    have H1 := bt.hide hz1
    have H2 := bt.hide hz2
    have HI := bt.hide hi
    clear hz0 hz1 hz2 hi hrdM hlenM
    go_enter Try.func5, Try.ntmps5
    go_wp2_with fail
    refine (K0.out _).mono ?_
    rintro e w' ⟨rfl, rfl⟩
    go_wp2_with fail
    refine (K1.out).mono ?_
    rintro e w1 ⟨v1, rfl, hown1, hbel1⟩
    simp only [List.nil_append] at hown1
    obtain ⟨A1, c1, rfl, hc1, hm1, hr1, _⟩ := hown1.form
    have HR1 := bt.hide hr1
    have B1 := bt.hide hbel1
    have B1s := bt.hide (show w.heap.size ≤ w1.heap.size from hbel1.size)
    clear hown1 hr1 hbel1
    go_wp2_with (at_builtin; refine mem.wpList_append_bytes _ rfl _ _ 23 rfl w.heap.size 5 i0 Try.underlying23 HI.out H0.out H1.out H2.out _ [] rfl (mem.Own.empty w1 _ _ B1s.out) w1.heap.size A1 _ c1 (pl.enc (pl.tagN a0 a1)) rfl rfl ?c2 ?c3 ?c4 ?_)
    case c2 => exact HR1.out.below ((Below.refl _ _).alloc (Nat.le_refl _) _)
    case c3 => simp <;> omega
    case c4 => have := B1s.out; simp; omega
    intro v2 w2 hown2 hbel2
    try simp only [List.nil_append] at hown2
    have HO2 := bt.hide hown2
    have B2 := bt.hide (B1.out.trans (((Below.refl w.heap.size w1).alloc B1s.out _).trans hbel2))
    have B2s := bt.hide (show w.heap.size ≤ w2.heap.size from B2.out.size)
    clear hown2 hbel2
    go_wp2_with (at_builtin; refine mem.wpList_append_bytes _ rfl _ _ 23 rfl w.heap.size 5 i0 Try.underlying23 HI.out H0.out H1.out H2.out _ _ rfl HO2.out w.heap.size a2 len2 cap2 ms rfl HLM.out.symm ?d2 ?d3 ?d4 ?_)
    case d2 => exact HM.out.below B2.out
    case d3 => skip
               omega
    case d4 => exact B2s.out
    intro v3 w3 hown3 hbel3
    obtain ⟨A3, c3, rfl, hc3, hm3, hr3, _⟩ := hown3.form
    have B3 := bt.hide (B2.out.trans hbel3)
    have B3s := bt.hide (show w.heap.size ≤ w3.heap.size from B3.out.size)
    clear hown3 hbel3
    have K3 := bt.hide (co.ict_yes A3 (pl.enc (pl.tagN a0 a1) ++ ms).length c3 (pl.enc (pl.tagN a0 a1) ++ ms) w3.heap.size w3 _ _ _ hr3 rfl (by have := HLM.out; simp only [List.length_append]; omega) hv)
    simp only [List.length_append] at K3
    rw [hvi, hvj] at K3
    clear hr3 hv hvi hvj
    go_wp2_with fail
    refine (K3.out).mono ?_
    rintro e w4 ⟨rfl, rfl⟩
    go_wp2_with fail
    refine (KS.out _).mono ?_
    rintro e w4 ⟨rfl, rfl⟩
    go_wp2_with fail
    go_ret
    exact ⟨by simp, B3.out⟩

end Go.Proofs.Ytknjnpmhbgeikaa.fnTag
