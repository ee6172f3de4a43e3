/-
  The walk of laws.FnGroupCut.
-/
import Derived.Test.YtacdclkhhgjkbaaFrm
import Derived.Test.YtacdclkhhgjkbaaFldg
import Derived.Test.YtacdclkhhgjkbaaAppG
import Derived.Test.YtacdclkhhgjkbaaGroup
import Derived.ProofKit
namespace Go.Proofs.Ytacdclkhhgjkbaa.fnGroupCutUpto
open Go.RowKit
set_option linter.unusedVariables false

set_option maxRecDepth 100000 in
set_option maxHeartbeats 1000000 in
theorem walk {H : Type} (a : Int) (A : Option Addr) (n c : Nat) (l : List (DataW H)) (m : Int) (w : World) (ha : -2147483648 ≤ a ∧ a ≤ 2147483647) (hl : fr.List50 w A n c l) (hm : -9223372036854775808 ≤ m ∧ m ≤ 9223372036854775807) :
    Calls Try.prog 4 #[.int .i32 a, .slice A n c, .int .i64 m] w (fo.Says w true) := by
  obtain ⟨hf, hnc, hcm, hn, hbig, hs⟩ := hl
  have HF := bt.hide hf
  have HS := bt.hide hs
  have HBIG := bt.hide hbig
  have hni : (n : Int) ≤ 1048576 := by omega
  obtain ⟨hm0, hm1⟩ := hm
  clear hf hs hbig hnc hcm hn
  go_enter Try.func4, Try.ntmps4
  go_wp2_with fail
  by_cases h1 : 1 ≤ a ∧ a ≤ 536870911
  rotate_left
  · refine (pu.numOk_no a _ (by omega)).mono ?_
    rintro e w1 ⟨rfl, rfl⟩
    go_wp2_with fail
    go_ret
    exact ⟨rfl, Below.refl _ _⟩
  refine (pu.numOk_yes a _ h1.1 h1.2).mono ?_
  rintro e w1 ⟨rfl, rfl⟩
  go_wp2_with fail
  refine (fo.fok w.heap.size 50 l A n c w (by decide) HF.out (Nat.le_refl _)).mono ?_
  rintro e w1 ⟨rfl, hb1⟩
  have HB1 := bt.hide hb1
  clear hb1
  rcases hok : pl.fieldsOk 50 l with _ | _
  · go_wp2_with fail
    go_ret
    exact ⟨rfl, HB1.out⟩
  have HOK := bt.hide hok
  have HG := bt.hide (fun k => pl.G_cut 50 l a k hok HS.out (by decide) h1.1 h1.2)
  clear hok
  go_wp2_with fail
  refine (fw.flds w.heap.size 50 l A n c w1 (HF.out.below HB1.out) HB1.out.size HOK.out (by have := HBIG.out; omega)).mono ?_
  rintro e w2 ⟨v2, rfl, hown2, hb2⟩
  obtain ⟨A2, c2, rfl, hc2, hm2, hr2, _⟩ := hown2.form
  have HR2 := bt.hide hr2
  have HB2 := bt.hide (HB1.out.trans (hb2.mono HB1.out.size))
  have HX := bt.hide (show (pl.fieldsB 50 l).length ≤ 41943040 from HBIG.out)
  generalize pl.fieldsB 50 l = X at *
  clear hown2 hb2 hr2
  go_wp2_with fail
  refine (ap.iag none [] 0 0 A2 _ c2 X a w2 (by omega) (by omega) (mem.Rd.nil_ _ _ _) rfl HR2.out rfl (by have := HX.out; simp; omega)).mono ?_
  rintro e w3 ⟨v3, rfl, hown3, hb3⟩
  rw [List.nil_append] at hown3
  obtain ⟨A3, c3, rfl, hc3, hm3, hr3, _⟩ := hown3.form
  have HR3 := bt.hide hr3
  have HB3 := bt.hide (HB2.out.trans (hb3.mono HB2.out.size))
  have hY : (X ++ pl.enc (pl.tagN a 4)).length ≤ 41943060 := by
    have := HX.out
    have := pl.enc_len_le (pl.tagN a 4)
    rw [List.length_append]
    omega
  generalize X ++ pl.enc (pl.tagN a 4) = Y at *
  clear hown3 hb3 hr3
  by_cases hneg : m < 0
  · have hd : decide (m < 0) = true := by simpa using hneg
    go_wp2_with fail
    refine (co.works _).mono ?_
    rintro e w4 ⟨rfl, hb4⟩
    have HB4 := bt.hide (HB3.out.trans (hb4.mono HB3.out.size))
    clear hb4
    go_wp2_with fail
    go_ret
    exact ⟨rfl, HB4.out⟩
  have hd : decide (m < 0) = false := by simpa using hneg
  obtain ⟨q, rfl⟩ := Int.eq_ofNat_of_zero_le (show 0 ≤ m by omega)
  by_cases hq : Y.length ≤ q
  · have hd2 : decide (Y.length ≤ q) = true := by simpa using hq
    go_wp2_with fail
    refine (co.works _).mono ?_
    rintro e w4 ⟨rfl, hb4⟩
    have HB4 := bt.hide (HB3.out.trans (hb4.mono HB3.out.size))
    clear hb4
    go_wp2_with fail
    go_ret
    exact ⟨rfl, HB4.out⟩
  have hd2 : decide (Y.length ≤ q) = false := by simpa using hq
  obtain ⟨i0, hi, hz0, hz1, hz2⟩ := info_parts ap.info8
  have H0 := bt.hide hz0
  have H1 := bt.hide hz1
  have H2 := bt.hide hz2
  have HI := bt.hide hi
  have s1 := fun (W : World) => mem.run_upto (w := W) (A := A3) (n := Y.length) (c := c3) Try.underlying25 HI.out H1.out q (by omega) .i64
  have HRq := bt.hide (HR3.out.take q)
  have HGq := bt.hide (HG.out q (by omega))
  have HLq := bt.hide (show (Y.take q).length = q by rw [List.length_take]; omega)
  have hs3 := HB3.out.size
  generalize Y.take q = M at *
  clear hz0 hz1 hz2 hi
  go_wp2_with (at_builtin; refine mem.wpList_append_bytes _ rfl _ _ 25 rfl w.heap.size 5 i0 Try.underlying25 HI.out H0.out H1.out H2.out _ [] rfl (mem.Own.empty w3 _ _ hs3) w3.heap.size A3 q c3 M rfl HLq.out.symm ?c2 ?c3 ?c4 ?_)
  case c2 => exact HRq.out.below ((Below.refl _ _).alloc (Nat.le_refl _) _)
  case c3 => simp; omega
  case c4 => simp; omega
  intro v4 w4 hown4 hbel4
  try simp only [List.nil_append] at hown4
  obtain ⟨A4, c4, rfl, hc4, hm4, hr4, _⟩ := hown4.form
  have HR4 := bt.hide hr4
  have HB4 := bt.hide (HB3.out.trans (((Below.refl w.heap.size w3).alloc hs3 _).trans hbel4))
  clear hown4 hbel4 hr4 s1
  go_wp2_with fail
  refine (gr.icg_no A4 _ c4 M w4 a HR4.out rfl hc4 hm4 ha HGq.out).mono ?_
  rintro e w5 ⟨k, ⟨v5, rfl, hown5, hb5⟩, hk⟩
  have HB5 := bt.hide (HB4.out.trans (hb5.mono HB4.out.size))
  have hkd : decide (k < 0) = true := by simpa using hk
  clear hown5 hb5
  go_wp2_with fail
  refine (co.works _).mono ?_
  rintro e w6 ⟨rfl, hb6⟩
  have HB6 := bt.hide (HB5.out.trans (hb6.mono HB5.out.size))
  clear hb6
  go_wp2_with fail
  go_ret
  exact ⟨rfl, HB6.out⟩
end Go.Proofs.Ytacdclkhhgjkbaa.fnGroupCutUpto
