/-
  The walk of laws.FnBytesCut returns true for every []byte and every int: bytes that are cut are an error. No condition.
-/
import Derived.Test.YthjflhpgfbnobaaRows
import Derived.WalkKit
import Derived.ProofKit
import Derived.OpenShut
import Derived.ShutString
import Derived.ChangeOld
import Derived.Below
import Derived.Test.YthjflhpgfbnobaaSpecR2
import Derived.Test.YthjflhpgfbnobaaAppend3
namespace Go.Proofs.Ythjflhpgfbnobaa.fnBytesCut
open Go.ChangeShapes Go.WideShapes Go.ChangeAt Go.RowKit
open Go.ChangeMaps (open_string shut_string)
set_option linter.unusedVariables false

def IsRow (k : IntKind) (w : World) (a : Option Addr) (len cap : Nat) (zs : List Int) : Prop :=
  (a = none ∧ len = 0 ∧ cap = 0 ∧ zs = []) ∨
  ∃ x, a = some x ∧ len ≤ cap ∧ cap ≤ maxLen ∧ zs.length = cap ∧ (∀ i, i < zs.length → w.cell? (x.add i) = some (.int k (zs.getD i 0))) ∧ ∀ n ∈ zs, (Lit.int k n).wf = true

theorem walk (a0 : Option Addr) (len0 cap0 : Nat) (z0 : List Int) (a1 : Int) (w : World) (w0 : IsRow .u8 w a0 len0 cap0 z0) (w1 : (Lit.int .i64 a1).wf = true) :
    Calls Try.prog 13 #[.slice a0 len0 cap0, .int .i64 a1] w fun e w' => e = .returned (.bool true) ∧ Below w.heap.size w w' := by
  obtain ⟨h2, h3⟩ := bounds_i64 w1
  obtain ⟨bs, hlen, hcap, hmax, hrd⟩ := mem.rd_of_row w0
  by_cases hbig : 2147483647 < len0
  · have hb : (2147483647 : Int) < (len0 : Int) := by omega
    have HR := bt.hide hrd
    clear hrd hlen w0 w1
    go_enter Try.func13, Try.ntmps13
    go_wp2
    go_ret
    exact ⟨rfl, Below.refl _ _⟩
  have hb : ¬ (2147483647 : Int) < (len0 : Int) := by omega
  have hb2 : ¬ (1099511627776 : Int) < (len0 : Int) := by omega
  have hel := pl.enc_len_le len0
  have KK := bt.hide (ap.iab none [] 0 0 a0 len0 cap0 bs w (mem.Rd.nil_ _ _ _) rfl hrd hlen.symm (by omega) (by simp; omega))
  have HC := bt.hide (fun k hk => pl.rbytes_cut bs k (by omega) hk)
  have hXl : (pl.enc len0 ++ bs).length ≤ 2147483657 := by rw [List.length_append]; omega
  rw [hlen] at HC
  have HRd := bt.hide hrd
  generalize pl.enc len0 ++ bs = X at *
  clear w0 w1 hrd hlen
  obtain ⟨i0, hi, hz0, hz1, hz2⟩ := info_parts co.info8
  have K1 := bt.hide (KK.out)
  have H0 := bt.hide hz0
  have H1 := bt.hide hz1
  have H2 := bt.hide hz2
  have HI := bt.hide hi
  clear hz0 hz1 hz2 hi
  by_cases hn : 0 ≤ a1 ∧ a1 < ((X).length : Int)
  · obtain ⟨k, hk⟩ := Int.eq_ofNat_of_zero_le hn.1
    subst hk
    have hkl : k < (X).length := by omega
    have hkz : ¬ (k : Int) < 0 := by omega
    have hkg : ¬ ((X).length : Int) ≤ (k : Int) := by omega
    have hkd : decide (((X).length : Int) ≤ (k : Int)) = false := by simpa using hkg
    clear hn
    go_enter Try.func13, Try.ntmps13
    go_wp2_with fail
    refine (K1.out).mono ?_
    rintro e w1 ⟨v1, rfl, hown1, hbel1⟩
    simp only [List.nil_append] at hown1
    obtain ⟨A1, c1, rfl, hc1, hm1, hr1, _⟩ := hown1.form
    have s1 := fun (W : World) => mem.run_upto (w := W) (A := A1) (n := (X).length) (c := c1) Try.underlying22 HI.out H1.out k (by omega) .i64
    have HR1 := bt.hide (hr1.take k)
    have B1 := bt.hide hbel1
    clear hown1 hr1 hbel1
    go_wp2_with (at_builtin; refine mem.wpList_append_bytes _ rfl _ _ 22 rfl w.heap.size 5 i0 Try.underlying22 HI.out H0.out H1.out H2.out _ [] rfl (mem.Own.empty w1 _ _ B1.out.size) w1.heap.size A1 k c1 ((X).take k) rfl ?c1 ?c2 ?c3 ?c4 ?_)
    case c1 => rw [List.length_take]; omega
    case c2 => exact HR1.out.below ((Below.refl _ _).alloc (Nat.le_refl _) _)
    case c3 => simp; omega
    case c4 => have := B1.out.size; simp; omega
    intro v2 w2 hown2 hbel2
    have hl2 : ((X).take k).length = k := by rw [List.length_take]; omega
    try simp only [List.nil_append] at hown2
    obtain ⟨A2, c2, hv2, hc2, hm2, hr2, _⟩ := hown2.form
    rw [hl2] at hv2
    subst hv2
    have B2 := bt.hide (B1.out.trans (((Below.refl w.heap.size w1).alloc B1.out.size _).trans hbel2))
    have K2 := bt.hide (co.icb_no A2 k c2 (X.take k) w2 hr2 hl2.symm (by omega) hm2 (HC.out k hkl))
    clear hown2 hbel2 hr2 s1 hl2
    go_wp2_with fail
    refine (K2.out).mono ?_
    rintro e w3 ⟨k3, ⟨v3, rfl, hown3, hbel3⟩, hk3⟩
    have B3 := bt.hide (B2.out.trans (hbel3.mono B2.out.size))
    clear hown3 hbel3
    go_wp2_with fail
    refine (co.works _).mono ?_
    rintro e w4 ⟨rfl, hb4⟩
    have HB4 := bt.hide (B3.out.trans (hb4.mono B3.out.size))
    clear hb4
    go_wp2_with fail
    go_ret
    exact ⟨rfl, HB4.out⟩
  · by_cases hneg : a1 < 0
    · skip
      clear hn
      go_enter Try.func13, Try.ntmps13
      go_wp2_with fail
      refine (K1.out).mono ?_
      rintro e w1 ⟨v1, rfl, hown1, hbel1⟩
      simp only [List.nil_append] at hown1
      obtain ⟨A1, c1, rfl, hc1, hm1, hr1, _⟩ := hown1.form
      have B1 := bt.hide hbel1
      clear hown1 hr1 hbel1
      go_wp2_with fail
      refine (co.works _).mono ?_
      rintro e w4 ⟨rfl, hb4⟩
      have HB4 := bt.hide (B1.out.trans (hb4.mono B1.out.size))
      clear hb4
      go_wp2_with fail
      go_ret
      exact ⟨rfl, HB4.out⟩
    · have hge : ((X).length : Int) ≤ a1 := by omega
      clear hn
      go_enter Try.func13, Try.ntmps13
      go_wp2_with fail
      refine (K1.out).mono ?_
      rintro e w1 ⟨v1, rfl, hown1, hbel1⟩
      simp only [List.nil_append] at hown1
      obtain ⟨A1, c1, rfl, hc1, hm1, hr1, _⟩ := hown1.form
      have B1 := bt.hide hbel1
      clear hown1 hr1 hbel1
      go_wp2_with fail
      refine (co.works _).mono ?_
      rintro e w4 ⟨rfl, hb4⟩
      have HB4 := bt.hide (B1.out.trans (hb4.mono B1.out.size))
      clear hb4
      go_wp2_with fail
      go_ret
      exact ⟨rfl, HB4.out⟩

end Go.Proofs.Ythjflhpgfbnobaa.fnBytesCut
