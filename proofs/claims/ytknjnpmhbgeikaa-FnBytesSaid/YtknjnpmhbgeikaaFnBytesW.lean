/-
  The walk of laws.FnBytes returns true for every two []byte: bytes that are appended are parsed, whatever stands behind them. No condition.
-/
import Derived.Test.YtknjnpmhbgeikaaRows
import Derived.WalkKit
import Derived.ProofKit
import Derived.OpenShut
import Derived.ShutString
import Derived.ChangeOld
import Derived.Below
import Derived.Test.YtknjnpmhbgeikaaAppend3
import Derived.Test.YtknjnpmhbgeikaaPlainR
import Derived.Test.YtknjnpmhbgeikaaCons5
import Derived.Test.YtknjnpmhbgeikaaSize2
import Derived.Test.YtknjnpmhbgeikaaArg
namespace Go.Proofs.Ytknjnpmhbgeikaa.fnBytes
open Go.ChangeShapes Go.WideShapes Go.ChangeAt Go.RowKit
open Go.ChangeMaps (open_string shut_string)
set_option linter.unusedVariables false

def IsRow (k : IntKind) (w : World) (a : Option Addr) (len cap : Nat) (zs : List Int) : Prop :=
  (a = none ∧ len = 0 ∧ cap = 0 ∧ zs = []) ∨
  ∃ x, a = some x ∧ len ≤ cap ∧ cap ≤ maxLen ∧ zs.length = cap ∧ (∀ i, i < zs.length → w.cell? (x.add i) = some (.int k (zs.getD i 0))) ∧ ∀ n ∈ zs, (Lit.int k n).wf = true

theorem walk (a0 : Option Addr) (len0 cap0 : Nat) (z0 : List Int) (a1 : Option Addr) (len1 cap1 : Nat) (z1 : List Int) (w : World) (w0 : IsRow .u8 w a0 len0 cap0 z0) (w1 : IsRow .u8 w a1 len1 cap1 z1) :
    Calls Try.prog 4 #[.slice a0 len0 cap0, .slice a1 len1 cap1] w fun e w' => e = .returned (.bool true) ∧ Below w.heap.size w w' := by
  obtain ⟨bs, hlen, hcap, hmax, hrd⟩ := mem.rd_of_row w0
  obtain ⟨ds, hlen1, hcap1, hmax1, hrd1⟩ := mem.rd_of_row w1
  clear w0 w1
  by_cases hbig : 2147483647 < len0
  · have hb : decide ((2147483647 : Int) < (len0 : Int)) = true := by simp; omega
    have HR := bt.hide hrd
    have HR1 := bt.hide hrd1
    clear hrd hlen hrd1 hlen1
    go_enter Try.func4, Try.ntmps4
    go_wp2
    go_ret
    exact ⟨rfl, Below.refl _ _⟩
  have hb : decide ((2147483647 : Int) < (len0 : Int)) = false := by simp; omega
  by_cases hbig1 : 2147483647 < len1
  · have hb1 : decide ((2147483647 : Int) < (len1 : Int)) = true := by simp; omega
    have HR := bt.hide hrd
    have HR1 := bt.hide hrd1
    clear hrd hlen hrd1 hlen1
    go_enter Try.func4, Try.ntmps4
    go_wp2
    go_ret
    exact ⟨rfl, Below.refl _ _⟩
  have hb1 : decide ((2147483647 : Int) < (len1 : Int)) = false := by simp; omega
  · have hb2 : decide ((1099511627776 : Int) < (len0 : Int)) = false := by simp; omega
    have hb3 : decide ((1099511627776 : Int) < (len1 : Int)) = false := by simp; omega
    have hel := pl.enc_len_le len0
    have KK := bt.hide (ap.iab none [] 0 0 a0 len0 cap0 bs w (mem.Rd.nil_ _ _ _) rfl hrd hlen.symm (by omega) (by simp; omega))
    have KS := fun (W : World) => sz.isb (len0 : Int) W (by omega) (by omega)
    have hv := pl.rbytes_enc bs ds (by omega)
    have hXl : (pl.enc len0 ++ bs).length = (pl.enc len0).length + len0 := by rw [List.length_append]; omega
    have hXb : (pl.enc len0 ++ bs).length ≤ 2147483657 := by omega
    have hcut : (((pl.enc len0 ++ bs) ++ ds).drop (pl.enc len0).length).take ((pl.enc len0 ++ bs).length - (pl.enc len0).length) = bs := by
      rw [List.append_assoc, List.drop_left, hXl, Nat.add_sub_cancel_left, ← hlen, List.take_left]
    rw [hlen, ← List.append_assoc] at hv
    rw [Int.toNat_natCast, ← Int.natCast_add, ← hXl] at KS
    have KS := bt.hide KS
    have c0 := fun (W : World) (hW : Below w.heap.size w W) => (hrd.below hW).conv (dst := 9) Try.underlying23 Try.underlying5 Try.underlying9 len0 cap0 hlen.symm
    have hd : ((mem.str bs).toList == (mem.str bs).toList) = true := by simp
    have hlenM := hlen1
    have hrdM := hrd1
    have hbs : bs.length ≤ 2147483647 := by omega
    generalize pl.enc len0 ++ bs = X at *
    generalize (pl.enc len0).length = p at *
    clear hrd hlen hrd1 hlen1 hXl hel
    obtain ⟨i0, hi, hz0, hz1, hz2⟩ := info_parts co.info8
    have K1 := bt.hide (KK.out)
    have HM := bt.hide hrdM
    have HLM := bt.hide hlenM
    have H0 := bt.hide hz0
    have H1 := bt.hide hz1
    have H2 := bt.hide hz2
    have HI := bt.hide hi
    clear hz0 hz1 hz2 hi hrdM hlenM
    go_enter Try.func4, Try.ntmps4
    go_wp2_with fail
    refine (K1.out).mono ?_
    rintro e w1 ⟨v1, rfl, hown1, hbel1⟩
    simp only [List.nil_append] at hown1
    obtain ⟨A1, c1, rfl, hc1, hm1, hr1, _⟩ := hown1.form
    have HR1 := bt.hide hr1
    have B1 := bt.hide hbel1
    have B1s := bt.hide (show w.heap.size ≤ w1.heap.size from hbel1.size)
    clear hown1 hr1 hbel1
    go_wp2_with (at_builtin; refine mem.wpList_append_bytes _ rfl _ _ 23 rfl w.heap.size 5 i0 Try.underlying23 HI.out H0.out H1.out H2.out _ [] rfl (mem.Own.empty w1 _ _ B1s.out) w1.heap.size A1 _ c1 (X) rfl rfl ?c2 ?c3 ?c4 ?_)
    case c2 => exact HR1.out.below ((Below.refl _ _).alloc (Nat.le_refl _) _)
    case c3 => simp <;> omega
    case c4 => have := B1s.out; simp; omega
    intro v2 w2 hown2 hbel2
    try simp only [List.nil_append] at hown2
    have HO2 := bt.hide hown2
    have B2 := bt.hide (B1.out.trans (((Below.refl w.heap.size w1).alloc B1s.out _).trans hbel2))
    have B2s := bt.hide (show w.heap.size ≤ w2.heap.size from B2.out.size)
    clear hown2 hbel2
    go_wp2_with (at_builtin; refine mem.wpList_append_bytes _ rfl _ _ 23 rfl w.heap.size 5 i0 Try.underlying23 HI.out H0.out H1.out H2.out _ _ rfl HO2.out w.heap.size a1 len1 cap1 ds rfl HLM.out.symm ?d2 ?d3 ?d4 ?_)
    case d2 => exact HM.out.below B2.out
    case d3 => skip
               omega
    case d4 => exact B2s.out
    intro v3 w3 hown3 hbel3
    obtain ⟨A3, c3, rfl, hc3, hm3, hr3, _⟩ := hown3.form
    have B3 := bt.hide (B2.out.trans hbel3)
    have B3s := bt.hide (show w.heap.size ≤ w3.heap.size from B3.out.size)
    clear hown3 hbel3
    have hXX : (X ++ ds).length ≤ maxLen := by rw [List.length_append]; have := HLM.out; simp only [maxLen]; omega
    have K3 := co.icb_yes2 A3 (X ++ ds).length c3 (X ++ ds) w3 p X.length hr3 rfl hc3 hm3 hv (by rw [hcut]; exact hbs)
    rw [hcut] at K3
    simp only [List.length_append] at K3
    have K3 := bt.hide K3
    have c0' := fun (W : World) (hW : Below w3.heap.size w3 W) => c0 W (B3.out.trans (hW.mono B3s.out))
    clear hr3 hv hcut c0 hXX
    go_wp2_with fail
    refine (K3.out).mono ?_
    rintro e w4 ⟨v4, rfl, hown4, hbel4⟩
    obtain ⟨A4, c4, rfl, hc4, hm4, hr4, _⟩ := hown4.form
    have d1 := hr4.conv (dst := 9) Try.underlying23 Try.underlying5 Try.underlying9 _ c4 rfl
    have d2 := c0' _ hbel4
    have B4 := bt.hide (B3.out.trans (hbel4.mono B3s.out))
    clear hown4 hbel4 hr4 c0'
    go_wp2_with fail
    refine (KS.out _).mono ?_
    rintro e w5 ⟨rfl, rfl⟩
    go_wp2_with fail
    go_ret
    exact ⟨by simp, B4.out⟩

end Go.Proofs.Ytknjnpmhbgeikaa.fnBytes
