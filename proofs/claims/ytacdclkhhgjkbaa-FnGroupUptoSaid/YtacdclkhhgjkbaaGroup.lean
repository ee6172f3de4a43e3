/-
  The contracts of ConsumeGroup.
-/
import Derived.Test.YtacdclkhhgjkbaaVal
import Derived.Test.YtacdclkhhgjkbaaSize2
import Derived.OpenShut
namespace Go.Proofs.Ytacdclkhhgjkbaa.gr
open Go.RowKit
set_option linter.unusedVariables false

theorem and127 (x : Nat) (h : x < 256) : bits .and .u8 (x : Int) 127 = ((x % 128 : Nat) : Int) := by
  have := bits_mask .u8 8 (by decide) (fun n h0 h1 => by simp [IntKind.wrap, IntKind.bits, IntKind.signed]; omega) 7 (by decide) (x : Int) (by omega) (by omega)
  simpa using this

theorem wcg_no (A : Option Addr) (n c : Nat) (bs : List Nat) (w : World) (num : Int) (hr : mem.Rd w w.heap.size A bs) (hn : n = bs.length) (hc : n ≤ c) (hm : c ≤ maxLen) (hnum : -2147483648 ≤ num ∧ num ≤ 2147483647) (h : pl.G 10001 num bs = none) :
    Calls Try.prog 25 #[.int .i32 num, .slice A n c] w fun e w' => ∃ k : Int, e = .returned (.tuple #[.slice none 0 0, .int .i64 k]) ∧ Below w.heap.size w w' ∧ k < 0 := by
  have K := va.wcfv A n c bs w num 3 hr hn hc hm hnum (by decide)
  rw [pl.V_group, h] at K
  have K := bt.hide K
  rename_i K0
  clear K0 hr hn hm h
  go_enter Try.func25, Try.ntmps25
  go_wp2_with fail
  refine (K.out).mono ?_
  rintro e w1 ⟨r, rfl, hb, hok⟩
  have hr0 : r < 0 := hok
  have HB := bt.hide hb
  clear hb hok
  go_wp2_with fail
  go_ret2
  exact ⟨r, rfl, HB.out, hr0⟩
set_option maxRecDepth 100000 in
theorem wcg_yes (A : Option Addr) (n c : Nat) (bs : List Nat) (w : World) (num : Int) (e t : Nat) (hr : mem.Rd w w.heap.size A bs) (hn : n = bs.length) (hc : n ≤ c) (hm : c ≤ maxLen) (hnum : -2147483648 ≤ num ∧ num ≤ 2147483647) (h : pl.G 10001 num bs = some (e, t)) :
    Calls Try.prog 25 #[.int .i32 num, .slice A n c] w fun e1 w' => e1 = .returned (.tuple #[.slice A e c, .int .i64 t]) ∧ Below w.heap.size w w' := by
  have K := va.wcfv A n c bs w num 3 hr hn hc hm hnum (by decide)
  rw [pl.V_group, h] at K
  have hm' := hm
  simp only [maxLen] at hm'
  have hl := pl.grp_len _ _ _ _ _ _ h
  obtain ⟨a, htag, hnum2⟩ := pl.grp_end _ _ _ _ _ _ h
  subst hnum2
  obtain ⟨ha1, ha2⟩ : 1 ≤ a ∧ a ≤ 2147483647 := by obtain ⟨_, _, _, _, h1, h2⟩ := pl.rtag_some htag; exact ⟨h1, h2⟩
  have KS := fun (W : World) => sz.wst (a : Int) W (by omega) (by omega)
  rw [Int.toNat_natCast] at KS
  have KS := bt.hide KS
  have HSTR := bt.hide (fun j => pl.strip_to bs e t j hr.1 a htag hl.1)
  obtain ⟨b, off, rfl, hbw, hcell⟩ := hr.at_ (by omega)
  obtain ⟨i0, hi, hz0, hz1, hz2⟩ := info_parts co.info8
  have H1 := bt.hide hz1
  have HI := bt.hide hi
  have HBY := bt.hide hr.byte
  have htn : t ≤ n := by omega
  have HC := bt.hide (fun (j : Nat) (hj : j < n) => hcell j (by omega))
  have s1 := fun (W : World) => mem.run_upto (w := W) (A := some ⟨b, off, none⟩) (n := n) (c := c) Try.underlying25 hi hz1 t (by omega) .i64
  have hel := pl.enc_len_le (a * 8)
  have hep := pl.enc_len_pos (a * 8)
  have K := bt.hide K
  have hel2 := hl.1
  generalize (pl.enc (a * 8)).length = L at *
  rename_i K0 _
  clear K0 hr hn hm h htag hcell hi hz0 hz1 hz2 hl
  go_enter Try.func25, Try.ntmps25
  go_wp2_with fail
  refine (K.out).mono ?_
  rintro e1 w1 ⟨r, rfl, hb, hok⟩
  have hr0 : r = (t : Int) := hok
  subst hr0
  have HB := bt.hide hb
  have HC1 := bt.hide (fun (j : Nat) (hj : j < n) => (hb.cell (p := ⟨b, off + j, none⟩) hbw).trans (HC.out j hj))
  clear hb hok
  go_wp2_with fail
  go_loop [1] (fun s => ∃ j : Nat, s = .slice (some ⟨b, off, none⟩) j c ∧ j ≤ t ∧ Hid (∀ i, j ≤ i → i < t → bs.getD i 0 % 128 = 0)) (fun s => match s with | .slice _ m _ => m | _ => 0)
  case atStart => exact ⟨t, rfl, Nat.le_refl _, bt.hide (fun i h1 h2 => by omega)⟩
  case round =>
    obtain ⟨j, rfl, hj, hz⟩ := hrel
    rcases Nat.eq_zero_or_pos j with h0 | h0
    · subst h0
      have hjj := bt.hide (HSTR.out 0 (by omega) hz.out (.inl rfl))
      exfalso
      have := hjj.out
      omega
    · obtain ⟨q, rfl⟩ : ∃ q, j = q + 1 := ⟨j - 1, by omega⟩
      have hcell := HC1.out q (by omega)
      have hx := HBY.out q
      have HXZ := bt.hide (fun (hxz : bs.getD q 0 % 128 ≠ 0) => HSTR.out (q + 1) hj hz.out (.inr hxz))
      have HXN := bt.hide (fun (hxz : bs.getD q 0 % 128 = 0) (i : Nat) (h1 : q ≤ i) (h2 : i < t) => show bs.getD i 0 % 128 = 0 by
        rcases Nat.eq_or_lt_of_le h1 with rfl | h3
        · exact hxz
        · exact hz.out i h3 h2)
      generalize bs.getD q 0 = x at *
      change w1.cell? _ = some (.int .u8 (x : Nat)) at hcell
      have hbit := and127 x hx
      have s2 := fun (W : World) => mem.run_upto (w := W) (A := some ⟨b, off, none⟩) (n := q + 1) (c := c) Try.underlying25 HI.out H1.out q (by omega) .i64
      by_cases hxz : x % 128 = 0
      · rw [hxz] at hbit
        have HN := bt.hide (HXN.out hxz)
        clear HXZ HXN hxz hz
        go_wp2_with fail
        go_round
        case rel => exact ⟨q, rfl, by omega, HN⟩
        case measure => simp
      · obtain ⟨y, hy⟩ : ∃ y, x % 128 = y + 1 := ⟨x % 128 - 1, by omega⟩
        rw [hy] at hbit
        have hq := HXZ.out hxz
        have s3 := fun (W : World) => mem.run_upto (w := W) (A := some ⟨b, off, none⟩) (n := q + 1) (c := c) Try.underlying25 HI.out H1.out e (by omega) .i64
        have hq' : (q : Int) + 1 - (L : Int) = (e : Int) := by omega
        clear HXZ HXN hxz hz hy hq
        go_wp2_with fail
        refine (KS.out _).mono ?_
        rintro e2 w2 ⟨rfl, rfl⟩
        go_wp2_with fail
        go_ret2
        exact ⟨rfl, HB.out⟩
theorem icg_yes (A : Option Addr) (n c : Nat) (bs : List Nat) (w : World) (num : Int) (e t : Nat) (hr : mem.Rd w w.heap.size A bs) (hn : n = bs.length) (hc : n ≤ c) (hm : c ≤ maxLen) (hbig : n ≤ 2147483647) (hnum : -2147483648 ≤ num ∧ num ≤ 2147483647) (h : pl.G 10001 num bs = some (e, t)) :
    Calls Try.prog 16 #[.int .i32 num, .slice A n c] w (co.GotCopy w (bs.take e) t) := by
  have K := bt.hide (wcg_yes A n c bs w num e t hr hn hc hm hnum h)
  have hl := pl.grp_len _ _ _ _ _ _ h
  obtain ⟨i0, hi, hz0, hz1, hz2⟩ := info_parts co.info8
  have HR := bt.hide (hr.take e)
  have HL := bt.hide (show (bs.take e).length = e by rw [List.length_take]; omega)
  have hle : e ≤ 2147483647 := by omega
  have H0 := bt.hide hz0
  have H1 := bt.hide hz1
  have H2 := bt.hide hz2
  have HI := bt.hide hi
  clear hz0 hz1 hz2 hi hn hr h hl
  generalize bs.take e = X at *
  go_enter Try.func16, Try.ntmps16
  go_wp2_with fail
  refine (K.out).mono ?_
  rintro e1 w1 ⟨rfl, hb1⟩
  have HB := bt.hide hb1
  have HBs := bt.hide (show w.heap.size ≤ w1.heap.size from hb1.size)
  clear hb1
  go_wp2_with (at_builtin; refine mem.wpList_append_bytes _ rfl _ _ 25 rfl w.heap.size 5 i0 Try.underlying25 HI.out H0.out H1.out H2.out _ [] rfl (mem.Own.empty w1 _ _ HBs.out) w.heap.size A e c X rfl HL.out.symm ?c2 ?c3 ?c4 ?_)
  case c2 => exact (HR.out.below HB.out).below ((Below.refl _ _).alloc HBs.out _)
  case c3 => simp; omega
  case c4 => have := HBs.out; simp; omega
  intro v1 w2 hown1 hbel1
  have HO := bt.hide hown1
  have hbel := bt.hide (HB.out.trans (((Below.refl w.heap.size w1).alloc HBs.out _).trans hbel1))
  clear hown1 hbel1
  go_wp2_with fail
  go_ret2
  exact ⟨v1, rfl, HO.out, hbel.out⟩
theorem icg_no (A : Option Addr) (n c : Nat) (bs : List Nat) (w : World) (num : Int) (hr : mem.Rd w w.heap.size A bs) (hn : n = bs.length) (hc : n ≤ c) (hm : c ≤ maxLen) (hnum : -2147483648 ≤ num ∧ num ≤ 2147483647) (h : pl.G 10001 num bs = none) :
    Calls Try.prog 16 #[.int .i32 num, .slice A n c] w fun e w' => ∃ k, co.GotCopy w [] k e w' ∧ k < 0 := by
  have K := bt.hide (wcg_no A n c bs w num hr hn hc hm hnum h)
  obtain ⟨i0, hi, hz0, hz1, hz2⟩ := info_parts co.info8
  have H0 := bt.hide hz0
  have H1 := bt.hide hz1
  have H2 := bt.hide hz2
  have HI := bt.hide hi
  clear hz0 hz1 hz2 hi hn hr h
  go_enter Try.func16, Try.ntmps16
  go_wp2_with fail
  refine (K.out).mono ?_
  rintro e1 w1 ⟨k, rfl, hb1, hk⟩
  have HB := bt.hide hb1
  have HBs := bt.hide (show w.heap.size ≤ w1.heap.size from hb1.size)
  clear hb1
  go_wp2_with (at_builtin; refine mem.wpList_append_bytes _ rfl _ _ 25 rfl w.heap.size 5 i0 Try.underlying25 HI.out H0.out H1.out H2.out _ [] rfl (mem.Own.empty w1 _ _ HBs.out) w.heap.size none 0 0 [] rfl rfl ?c2 ?c3 ?c4 ?_)
  case c2 => exact mem.Rd.nil_ _ _ _
  case c3 => simp
  case c4 => have := HBs.out; simp; omega
  intro v1 w2 hown1 hbel1
  have HO := bt.hide hown1
  have hbel := bt.hide (HB.out.trans (((Below.refl w.heap.size w1).alloc HBs.out _).trans hbel1))
  clear hown1 hbel1
  go_wp2_with fail
  go_ret2
  exact ⟨k, ⟨v1, rfl, HO.out, hbel.out⟩, hk⟩
end Go.Proofs.Ytacdclkhhgjkbaa.gr
