/-
  The walk of laws.FnFieldBytes.
-/
import Derived.Test.YtacdclkhhgjkbaaFlds
import Derived.Test.YtacdclkhhgjkbaaVal2
import Derived.Test.YtacdclkhhgjkbaaPlainF
import Derived.Test.YtacdclkhhgjkbaaOwnNew
import Derived.ProofKit
namespace Go.Proofs.Ytacdclkhhgjkbaa.fnFieldBytes
open Go.RowKit
set_option linter.unusedVariables false

set_option maxRecDepth 100000 in
set_option maxHeartbeats 1000000 in
theorem walk (a k v m : Int) (A3 : Option Addr) (n3 c3 : Nat) (A4 : Option Addr) (n4 c4 : Nat) (w : World) (data : List Nat) (hr : mem.Rd w w.heap.size A3 data) (hn : data.length = n3) (hv0 : 0 ≤ v) (hv1 : v < 18446744073709551616) (hm0 : -9223372036854775808 ≤ m) (hm1 : m ≤ 9223372036854775807) :
    Calls Try.prog 8 #[.agg #[.int .i32 a, .int .i8 k, .int .u64 v, .slice A3 n3 c3, .slice A4 n4 c4], .int .i64 m] w fun e w' => e = .returned (.bool true) ∧ Below w.heap.size w w' := by
  have HD := bt.hide hr
  have HN := bt.hide hn
  clear hr hn
  by_cases h3 : 2147483647 < n3
  · have KZ := bt.hide (fun (W : World) => fl.zz_data k a v A3 n3 c3 A4 n4 c4 W h3)
    clear h3
    go_enter Try.func8, Try.ntmps8
    go_wp2_with fail
    refine (KZ.out _).mono ?_
    rintro e w1 ⟨rfl, hb1⟩
    have HB1 := bt.hide (((Below.refl w.heap.size w).alloc (Nat.le_refl _) _).trans (hb1.mono (by simp)))
    clear hb1
    go_wp2_with fail
    go_ret
    exact ⟨rfl, HB1.out⟩
  by_cases h4 : 2147483647 < n4
  · have KZ := bt.hide (fun (W : World) => fl.zz_kids k a v A3 n3 c3 A4 n4 c4 W (by omega) h4)
    clear h3 h4
    go_enter Try.func8, Try.ntmps8
    go_wp2_with fail
    refine (KZ.out _).mono ?_
    rintro e w1 ⟨rfl, hb1⟩
    have HB1 := bt.hide (((Below.refl w.heap.size w).alloc (Nat.le_refl _) _).trans (hb1.mono (by simp)))
    clear hb1
    go_wp2_with fail
    go_ret
    exact ⟨rfl, HB1.out⟩
  have KZ := bt.hide (fun (W : World) => fl.zz k a v A3 n3 c3 A4 n4 c4 W (by omega) (by omega))
  have HH3 := bt.hide (show n3 ≤ 2147483647 by omega)
  clear h3 h4
  have HV0 := bt.hide hv0
  have HV1 := bt.hide hv1
  clear hv0 hv1
  go_enter Try.func8, Try.ntmps8
  go_wp2_with fail
  refine (KZ.out _).mono ?_
  rintro e w1 ⟨rfl, hb1⟩
  have hrow1 := (hb1.block w.heap.size (by simp)).trans (heap_alloc_new w _)
  have HB1 := bt.hide (((Below.refl w.heap.size w).alloc (Nat.le_refl _) _).trans (hb1.mono (by simp)))
  obtain ⟨y0, y1, y2, y3, y4⟩ := fl.five hrow1
  have hfz := frozen_of_row _ _ 1 _ _ hrow1
  have hrow2 := heap_setCell_same w1 w.heap.size 1 _ _ (.int .i8 2) hrow1
  have HROW2 := bt.hide hrow2
  have hp1 := (Array.getElem?_eq_some_iff.1 hrow1).1
  clear hb1 hrow1 hrow2
  go_wp2_with fail
  clear y0 y1 y2 y3 y4 hfz
  have hs2 : (w1.setCell ⟨w.heap.size, 1, none⟩ (.int .i8 2)).heap.size = w1.heap.size := by simp
  have HB2 := bt.hide (HB1.out.setCell (p := ⟨w.heap.size, 1, none⟩) (Nat.le_refl _) (.int .i8 2))
  rw [← hs2]
  rw [← hs2] at hp1
  generalize w1.setCell ⟨w.heap.size, 1, none⟩ (.int .i8 2) = w2 at *
  clear hs2
  have hsz2 : w.heap.size ≤ w2.heap.size := by omega
  by_cases hnum : 1 ≤ a ∧ a ≤ 536870911
  rotate_left
  · refine (fl.fok2_no a v A3 n3 c3 A4 n4 c4 _ _ 41 (heap_alloc_new w2 _) hnum).mono ?_
    rintro e w3 ⟨rfl, hb3⟩
    have HB3 := bt.hide ((HB2.out.alloc hsz2 _).trans (hb3.mono (by simp; omega)))
    clear hb3
    go_wp2_with fail
    go_ret
    exact ⟨rfl, HB3.out⟩
  refine (fl.fok2 a v A3 n3 c3 A4 n4 c4 _ _ 41 (heap_alloc_new w2 _) hnum).mono ?_
  rintro e w3 ⟨rfl, hb3⟩
  have hrow3 := ((hb3.block w.heap.size (by simp; omega)).trans (((Below.refl w2.heap.size w2).alloc (Nat.le_refl _) _).block w.heap.size hp1)).trans HROW2.out
  have HB3 := bt.hide ((HB2.out.alloc hsz2 _).trans (hb3.mono (by simp; omega)))
  have hsz3 : w.heap.size < w3.heap.size := (Array.getElem?_eq_some_iff.1 hrow3).1
  have HROW3 := bt.hide hrow3
  obtain ⟨y0, y1, y2, y3, y4⟩ := fl.five hrow3
  clear hb3 hrow3
  go_wp2_with fail
  clear y0 y1 y2 y3 y4
  obtain ⟨g0, g1⟩ := hnum
  obtain ⟨an, rfl⟩ := Int.eq_ofNat_of_zero_le (show 0 ≤ a by omega)
  have KV := fun (W : World) => sw.svar W.heap.size ((an : Int) * 8 + 2) W (by omega) (by omega) (Nat.le_refl _)
  rw [show ((an : Int) * 8 + 2).toNat = an * 8 + 2 by omega] at KV
  have hel := pl.enc_len_le (an * 8 + 2)
  have hxl : (pl.enc n3 ++ data).length ≤ 2147483657 := by rw [List.length_append, HN.out]; have := pl.enc_len_le n3; have := HH3.out; omega
  have HF := bt.hide (va.F_whole an 2 (pl.enc n3 ++ data) (by omega) (by omega) (by decide) (by decide) (by have h := va.vb2 data (by rw [HN.out]; have := HH3.out; omega); rw [HN.out] at h; exact h))
  have HC := bt.hide (va.F_cut an 2 (pl.enc n3 ++ data) (by omega) (by omega) (by decide) (by decide) (by have h := va.vb2 data (by rw [HN.out]; have := HH3.out; omega); rw [HN.out] at h; exact h))
  have hnl : (pl.enc (an * 8 + 2) ++ (pl.enc n3 ++ data)).length ≤ 2147483670 := by rw [List.length_append]; omega
  refine (fl.flds1 (an : Int) 2 v ((an : Int) * 8 + 2) A3 n3 c3 A4 n4 c4 (pl.enc (an * 8 + 2)) (pl.enc n3 ++ data) _ _ 41 (heap_alloc_new w3 _) hel (by omega) (fun W => pu.stag (an : Int) 2 W (by omega) (by omega) (by decide) (by decide)) KV (fun W hW => fl.val2 (an : Int) v A3 n3 c3 A4 n4 c4 data w.heap.size W (HD.out.below ((HB3.out.alloc (by omega) _).trans (hW.mono (by simp; omega)))) (by have := hW.size; simp at this; omega) HN.out HH3.out)).mono ?_
  rintro e w4 ⟨v4, rfl, hown4, hb4⟩
  have hrow4 := ((hb4.block w.heap.size (by simp; omega)).trans (((Below.refl w3.heap.size w3).alloc (Nat.le_refl _) _).block w.heap.size hsz3)).trans HROW3.out
  have HB4 := bt.hide ((HB3.out.alloc (by omega) _).trans (hb4.mono (by simp; omega)))
  have HROW4 := bt.hide hrow4
  have hsz4 : w.heap.size < w4.heap.size := (Array.getElem?_eq_some_iff.1 hrow4).1
  generalize pl.enc (an * 8 + 2) ++ (pl.enc n3 ++ data) = N at *
  obtain ⟨A, c, rfl, hc, hm, hr, _⟩ := hown4.form
  have K1 := va.icfl A _ c N w4 hr rfl hc hm
  rw [HF.out] at K1
  have K1 := bt.hide K1
  have HR := bt.hide hr
  clear hr hown4 hb4 hrow4 KV hel hxl
  go_wp2_with fail
  refine (K1.out).mono ?_
  rintro e w5 ⟨x, y, n, rfl, hb5, rfl, rfl, rfl⟩
  have hrow5 := (hb5.block w.heap.size hsz4).trans HROW4.out
  have HB5 := bt.hide (HB4.out.trans (hb5.mono (by omega)))
  have hsz5 : w.heap.size ≤ w5.heap.size := Nat.le_of_lt (Array.getElem?_eq_some_iff.1 hrow5).1
  have HR5 := bt.hide ((HR.out.below hb5).more hb5.size)
  obtain ⟨y0, y1, y2, y3, y4⟩ := fl.five hrow5
  clear hb5 hrow5
  by_cases hm0' : m < 0
  · have hd : decide (m < 0) = true := by simpa using hm0'
    go_wp2_with fail
    go_ret
    exact ⟨rfl, HB5.out⟩
  have hd : decide (m < 0) = false := by simpa using hm0'
  obtain ⟨q, rfl⟩ := Int.eq_ofNat_of_zero_le (show 0 ≤ m by omega)
  by_cases hq : N.length ≤ q
  · have hd2 : decide ((N.length : Int) ≤ (q : Int)) = true := by simpa using hq
    go_wp2_with fail
    go_ret
    exact ⟨rfl, HB5.out⟩
  have hd2 : decide ((N.length : Int) ≤ (q : Int)) = false := by simpa using hq
  obtain ⟨i0, hi, hz0, hz1, hz2⟩ := info_parts ap.info8
  have H0 := bt.hide hz0
  have H1 := bt.hide hz1
  have H2 := bt.hide hz2
  have HI := bt.hide hi
  have s1 := fun (W : World) => mem.run_upto (w := W) (A := A) (n := N.length) (c := c) Try.underlying25 HI.out H1.out q (by omega) .i64
  have HRq := bt.hide (HR5.out.take q)
  have hFq := HC.out q (by omega)
  have hlq : (N.take q).length = q := by rw [List.length_take]; omega
  generalize N.take q = M at *
  have HFq := bt.hide hFq
  have HLq := bt.hide hlq
  clear hz0 hz1 hz2 hi hFq hlq
  go_wp2_with (at_builtin; refine mem.wpList_append_bytes _ rfl _ _ 25 rfl w.heap.size 5 i0 Try.underlying25 HI.out H0.out H1.out H2.out _ [] rfl (mem.Own.empty w5 _ _ hsz5) w5.heap.size A q c M rfl HLq.out.symm ?c2 ?c3 ?c4 ?_)
  case c2 => exact HRq.out.below ((Below.refl _ _).alloc (Nat.le_refl _) _)
  case c3 => simp; omega
  case c4 => simp; omega
  intro v6 w6 hown6 hbel6
  try simp only [List.nil_append] at hown6
  obtain ⟨A6, c6, rfl, hc6, hm6, hr6, _⟩ := hown6.form
  have HB6 := bt.hide (HB5.out.trans (((Below.refl w.heap.size w5).alloc hsz5 _).trans hbel6))
  have hsz6 : w.heap.size ≤ w6.heap.size := HB6.out.size
  have K2 := va.icfl A6 _ c6 M w6 hr6 rfl hc6 hm6
  rw [HFq.out] at K2
  have K2 := bt.hide K2
  clear hown6 hbel6 hr6
  go_wp2_with fail
  refine (K2.out).mono ?_
  rintro e w7 ⟨x, y, n, rfl, hb7, hn⟩
  have hn0 : n < 0 := hn
  have HB7 := bt.hide (HB6.out.trans (hb7.mono hsz6))
  clear hb7 hn
  go_wp2_with fail
  go_ret
  exact ⟨by simp, HB7.out⟩
end Go.Proofs.Ytacdclkhhgjkbaa.fnFieldBytes
