/-
  The walk of laws.FnVarint returns true for every number and every []byte behind it: what is appended is parsed, whatever stands behind it. No condition.
-/
import Derived.Test.YtknjnpmhbgeikaaRows
import Derived.WalkKit
import Derived.ProofKit
import Derived.OpenShut
import Derived.ShutString
import Derived.ChangeOld
import Derived.Below
import Derived.Test.YtknjnpmhbgeikaaAppend3
import Derived.Test.YtknjnpmhbgeikaaPlainR
import Derived.Test.YtknjnpmhbgeikaaCons4
import Derived.Test.YtknjnpmhbgeikaaSize2
namespace Go.Proofs.Ytknjnpmhbgeikaa.fnVarint
open Go.ChangeShapes Go.WideShapes Go.ChangeAt Go.RowKit
open Go.ChangeMaps (open_string shut_string)
set_option linter.unusedVariables false

def IsRow (k : IntKind) (w : World) (a : Option Addr) (len cap : Nat) (zs : List Int) : Prop :=
  (a = none ∧ len = 0 ∧ cap = 0 ∧ zs = []) ∨
  ∃ x, a = some x ∧ len ≤ cap ∧ cap ≤ maxLen ∧ zs.length = cap ∧ (∀ i, i < zs.length → w.cell? (x.add i) = some (.int k (zs.getD i 0))) ∧ ∀ n ∈ zs, (Lit.int k n).wf = true

theorem walk (a0 : Int) (a1 : Option Addr) (len1 cap1 : Nat) (z1 : List Int) (w : World) (w0 : (Lit.int .u64 a0).wf = true) (w1 : IsRow .u8 w a1 len1 cap1 z1) :
    Calls Try.prog 3 #[.int .u64 a0, .slice a1 len1 cap1] w fun e w' => e = .returned (.bool true) ∧ Below w.heap.size w w' := by
  obtain ⟨ms, hlenM, hcapM, hmaxM, hrdM⟩ := mem.rd_of_row w1
  by_cases hbig : 2147483647 < len1
  · have hb : (2147483647 : Int) < (len1 : Int) := by omega
    have HR := bt.hide hrdM
    clear hrdM hlenM w0 w1
    go_enter Try.func3, Try.ntmps3
    go_wp2
    go_ret
    exact ⟨rfl, Below.refl _ _⟩
  · have hb : ¬ (2147483647 : Int) < (len1 : Int) := by omega
    obtain ⟨h0, h1⟩ := bounds_u64 w0
    have hel := pl.enc_len_le a0.toNat
    have hv := pl.rv_enc a0.toNat ms (by omega)
    have hvi : ((a0.toNat : Nat) : Int) = a0 := Int.toNat_of_nonneg h0
    have KS := bt.hide (fun (W : World) => sz.isv a0 W h0 (by omega))
    clear w0 w1
    obtain ⟨i0, hi, hz0, hz1, hz2⟩ := info_parts co.info8
    have K1 := bt.hide (ap.iAppendVarint none [] 0 0 a0 w h0 (by omega) (mem.Rd.nil_ _ _ _) rfl (by simp))
    have HM := bt.hide hrdM
    have HLM := bt.hide hlenM
    have H0 := bt.hide hz0
    have H1 := bt.hide hz1
    have H2 := bt.hide hz2
    have HI := bt.hide hi
    clear hz0 hz1 hz2 hi hrdM hlenM
    go_enter Try.func3, Try.ntmps3
    go_wp2_with fail
    refine (K1.out).mono ?_
    rintro e w1 ⟨v1, rfl, hown1, hbel1⟩
    simp only [List.nil_append] at hown1
    obtain ⟨A1, c1, rfl, hc1, hm1, hr1, _⟩ := hown1.form
    have HR1 := bt.hide hr1
    have B1 := bt.hide hbel1
    have B1s := bt.hide (show w.heap.size ≤ w1.heap.size from hbel1.size)
    clear hown1 hr1 hbel1
    go_wp2_with (at_builtin; refine mem.wpList_append_bytes _ rfl _ _ 23 rfl w.heap.size 5 i0 Try.underlying23 HI.out H0.out H1.out H2.out _ [] rfl (mem.Own.empty w1 _ _ B1s.out) w1.heap.size A1 _ c1 (pl.enc a0.toNat) rfl rfl ?c2 ?c3 ?c4 ?_)
    case c2 => exact HR1.out.below ((Below.refl _ _).alloc (Nat.le_refl _) _)
    case c3 => simp <;> omega
    case c4 => have := B1s.out; simp; omega
    intro v2 w2 hown2 hbel2
    try simp only [List.nil_append] at hown2
    have HO2 := bt.hide hown2
    have B2 := bt.hide (B1.out.trans (((Below.refl w.heap.size w1).alloc B1s.out _).trans hbel2))
    have B2s := bt.hide (show w.heap.size ≤ w2.heap.size from B2.out.size)
    clear hown2 hbel2
    go_wp2_with (at_builtin; refine mem.wpList_append_bytes _ rfl _ _ 23 rfl w.heap.size 5 i0 Try.underlying23 HI.out H0.out H1.out H2.out _ _ rfl HO2.out w.heap.size a1 len1 cap1 ms rfl HLM.out.symm ?d2 ?d3 ?d4 ?_)
    case d2 => exact HM.out.below B2.out
    case d3 => skip
               omega
    case d4 => exact B2s.out
    intro v3 w3 hown3 hbel3
    obtain ⟨A3, c3, rfl, hc3, hm3, hr3, _⟩ := hown3.form
    have B3 := bt.hide (B2.out.trans hbel3)
    have B3s := bt.hide (show w.heap.size ≤ w3.heap.size from B3.out.size)
    clear hown3 hbel3
    have K3 := bt.hide (co.icv_yes A3 (pl.enc a0.toNat ++ ms).length c3 (pl.enc a0.toNat ++ ms) w3.heap.size w3 _ hr3 rfl (by have := HLM.out; simp only [List.length_append]; omega) hv)
    simp only [List.length_append] at K3
    rw [hvi] at K3
    clear hr3 hv hvi
    go_wp2_with fail
    refine (K3.out).mono ?_
    rintro e w4 ⟨rfl, rfl⟩
    go_wp2_with fail
    refine (KS.out _).mono ?_
    rintro e w4 ⟨rfl, rfl⟩
    go_wp2_with fail
    go_ret
    exact ⟨by simp, B3.out⟩

end Go.Proofs.Ytknjnpmhbgeikaa.fnVarint
