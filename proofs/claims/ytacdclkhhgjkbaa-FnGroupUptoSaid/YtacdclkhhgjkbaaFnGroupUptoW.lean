/-
  The walk of laws.FnGroup.
-/
import Derived.Test.YtacdclkhhgjkbaaFrm
import Derived.Test.YtacdclkhhgjkbaaFldg
import Derived.Test.YtacdclkhhgjkbaaAppG
import Derived.Test.YtacdclkhhgjkbaaGroup
import Derived.ProofKit
namespace Go.Proofs.Ytacdclkhhgjkbaa.fnGroupUpto
open Go.RowKit
set_option linter.unusedVariables false

set_option maxRecDepth 100000 in
set_option maxHeartbeats 1000000 in
theorem walk {H : Type} (a : Int) (A : Option Addr) (n c : Nat) (l : List (DataW H)) (A1 : Option Addr) (n1 c1 : Nat) (ds : List Nat) (w : World) (ha : -2147483648 ≤ a ∧ a ≤ 2147483647) (hl : fr.List50 w A n c l) (hb : fr.Bytes1 w A1 n1 c1 ds) :
    Calls Try.prog 5 #[.int .i32 a, .slice A n c, .slice A1 n1 c1] w (fo.Says w true) := by
  obtain ⟨hf, hnc, hcm, hn, hbig, hs⟩ := hl
  obtain ⟨hrd, hrl, -, -, hn1⟩ := hb
  have HF := bt.hide hf
  have HS := bt.hide hs
  have HBIG := bt.hide hbig
  have HM := bt.hide hrd
  have HLM := bt.hide hrl
  have hni : (n : Int) ≤ 1048576 := by omega
  have hni1 : (n1 : Int) ≤ 1048576 := by omega
  clear hf hs hbig hnc hcm hn hrd hrl hn1
  go_enter Try.func5, Try.ntmps5
  go_wp2_with fail
  by_cases h1 : 1 ≤ a ∧ a ≤ 536870911
  rotate_left
  · refine (pu.numOk_no a _ (by omega)).mono ?_
    rintro e w1 ⟨rfl, rfl⟩
    go_wp2_with fail
    go_ret
    exact ⟨rfl, Below.refl _ _⟩
  refine (pu.numOk_yes a _ h1.1 h1.2).mono ?_
  rintro e w1 ⟨rfl, rfl⟩
  go_wp2_with fail
  refine (fo.fok w.heap.size 50 l A n c w (by decide) HF.out (Nat.le_refl _)).mono ?_
  rintro e w1 ⟨rfl, hb1⟩
  have HB1 := bt.hide hb1
  clear hb1
  rcases hok : pl.fieldsOk 50 l with _ | _
  · go_wp2_with fail
    go_ret
    exact ⟨rfl, HB1.out⟩
  have HOK := bt.hide hok
  have HG := bt.hide (show pl.G 10001 a ((pl.fieldsB 50 l ++ pl.enc (pl.tagN a 4)) ++ ds) = some ((pl.fieldsB 50 l).length, (pl.fieldsB 50 l ++ pl.enc (pl.tagN a 4)).length) by
    have := pl.G_written 50 l a a ds hok HS.out (by decide) h1.1 h1.2
    rw [if_pos rfl] at this
    rw [List.append_assoc, this, List.length_append])
  clear hok
  go_wp2_with fail
  refine (fw.flds w.heap.size 50 l A n c w1 (HF.out.below HB1.out) HB1.out.size HOK.out (by have := HBIG.out; omega)).mono ?_
  rintro e w2 ⟨v2, rfl, hown2, hb2⟩
  obtain ⟨A2, c2, rfl, hc2, hm2, hr2, _⟩ := hown2.form
  have HR2 := bt.hide hr2
  have HB2 := bt.hide (HB1.out.trans (hb2.mono HB1.out.size))
  have HX := bt.hide (show (pl.fieldsB 50 l).length ≤ 41943040 from HBIG.out)
  generalize pl.fieldsB 50 l = X at *
  have hXi : (X.length : Int) ≤ 41943040 := by have := HX.out; omega
  clear hown2 hb2 hr2
  go_wp2_with fail
  refine (ap.iag none [] 0 0 A2 _ c2 X a w2 (by omega) (by omega) (mem.Rd.nil_ _ _ _) rfl HR2.out rfl (by have := HX.out; simp; omega)).mono ?_
  rintro e w3 ⟨v3, rfl, hown3, hb3⟩
  rw [List.nil_append] at hown3
  obtain ⟨A3, c3, rfl, hc3, hm3, hr3, _⟩ := hown3.form
  have HR3 := bt.hide hr3
  have HB3 := bt.hide (HB2.out.trans (hb3.mono HB2.out.size))
  have hY : (X ++ pl.enc (pl.tagN a 4)).length ≤ 41943060 := by
    have := HX.out
    have := pl.enc_len_le (pl.tagN a 4)
    rw [List.length_append]
    omega
  have HT := bt.hide (show ((X ++ pl.enc (pl.tagN a 4)) ++ ds).take X.length = X by rw [List.append_assoc, List.take_left])
  have KS := fun (W : World) => sz.isg a (X.length : Int) W (by omega) (by omega) (by omega) (by omega)
  rw [show ((X.length : Int) + ((pl.enc (a.toNat * 8)).length : Nat)) = ((X ++ pl.enc (pl.tagN a 4)).length : Nat) by
    rw [List.length_append, show pl.tagN a 4 = a.toNat * 8 + 4 from rfl, pl.enc_len_tag a.toNat 4 (by decide), Int.natCast_add]] at KS
  have HKS := bt.hide KS
  have HRX := bt.hide (HR2.out.below hb3)
  have HS3 := bt.hide (show w2.heap.size ≤ w3.heap.size from hb3.size)
  generalize X ++ pl.enc (pl.tagN a 4) = Y at *
  have hs3 := HB3.out.size
  obtain ⟨i0, hi, hz0, hz1, hz2⟩ := info_parts ap.info8
  have H0 := bt.hide hz0
  have H1 := bt.hide hz1
  have H2 := bt.hide hz2
  have HI := bt.hide hi
  clear hown3 hb3 hr3 KS hz0 hz1 hz2 hi
  go_wp2_with (at_builtin; refine mem.wpList_append_bytes _ rfl _ _ 25 rfl w3.heap.size 5 i0 Try.underlying25 HI.out H0.out H1.out H2.out _ [] rfl (mem.Own.empty w3 _ _ (Nat.le_refl _)) w3.heap.size A3 _ c3 Y rfl rfl ?c2 ?c3 ?c4 ?_)
  case c2 => exact HR3.out.below ((Below.refl _ _).alloc (Nat.le_refl _) _)
  case c3 => simp; omega
  case c4 => simp
  intro v4 w4 hown4 hbel4
  try simp only [List.nil_append] at hown4
  have HO4 := bt.hide hown4
  have HB34 := bt.hide (((Below.refl w3.heap.size w3).alloc (Nat.le_refl _) _).trans hbel4)
  have hs4 := HB34.out.size
  clear hown4 hbel4
  go_wp2_with (at_builtin; refine mem.wpList_append_bytes _ rfl _ _ 25 rfl w3.heap.size 5 i0 Try.underlying25 HI.out H0.out H1.out H2.out _ _ rfl HO4.out w.heap.size A1 n1 c1 ds rfl HLM.out.symm ?d2 ?d3 ?d4 ?_)
  case d2 => exact (HM.out.below HB3.out).below (HB34.out.mono hs3)
  case d3 => omega
  case d4 => exact hs4
  intro v5 w5 hown5 hbel5
  obtain ⟨A5, c5, rfl, hc5, hm5, hr5, _⟩ := hown5.form
  have HB35 := bt.hide (HB34.out.trans hbel5)
  have hs5 := HB35.out.size
  have HR5 := bt.hide hr5
  have hYd : (Y ++ ds).length ≤ 2147483647 := by rw [List.length_append, HLM.out]; omega
  have K3 := bt.hide (gr.icg_yes A5 _ c5 (Y ++ ds) w5 a X.length Y.length hr5 rfl hc5 hm5 hYd ha HG.out)
  have K4 := K3.out
  rw [HT.out] at K4
  have K5 := bt.hide K4
  have c0 := fun (W : World) (hW : Below w5.heap.size w5 W) => ((HRX.out.below (HB35.out.mono HS3.out)).below (hW.mono (Nat.le_trans HS3.out hs5))).conv (dst := 9) Try.underlying25 Try.underlying5 Try.underlying9 X.length c2 rfl
  clear hown5 hbel5 hr5 K3 K4
  generalize Y ++ ds = Z at *
  go_wp2_with fail
  refine (K5.out).mono ?_
  rintro e w6 ⟨v6, rfl, hown6, hbel6⟩
  obtain ⟨A6, c6, rfl, hc6, hm6, hr6, _⟩ := hown6.form
  have d1 := hr6.conv (dst := 9) Try.underlying25 Try.underlying5 Try.underlying9 _ c6 rfl
  have d2 := c0 _ hbel6
  have HB6 := bt.hide (HB3.out.trans ((HB35.out.trans (hbel6.mono hs5)).mono hs3))
  have hd : ((mem.str X).toList == (mem.str X).toList) = true := by simp
  clear hown6 hbel6 hr6 c0
  go_wp2_with fail
  refine (HKS.out _).mono ?_
  rintro e w7 ⟨rfl, rfl⟩
  go_wp2_with fail
  go_ret
  exact ⟨by simp, HB6.out⟩
end Go.Proofs.Ytacdclkhhgjkbaa.fnGroupUpto
