/-
  The walk of laws.FnGroupOther.
-/
import Derived.Test.YtacdclkhhgjkbaaFrm
import Derived.Test.YtacdclkhhgjkbaaFldg
import Derived.Test.YtacdclkhhgjkbaaAppG
import Derived.Test.YtacdclkhhgjkbaaGroup
import Derived.ProofKit
namespace Go.Proofs.Ytacdclkhhgjkbaa.fnGroupOtherUpto
open Go.RowKit
set_option linter.unusedVariables false

set_option maxRecDepth 100000 in
set_option maxHeartbeats 1000000 in
theorem walk {H : Type} (a o : Int) (A : Option Addr) (n c : Nat) (l : List (DataW H)) (w : World) (ha : -2147483648 ≤ a ∧ a ≤ 2147483647) (ho : -2147483648 ≤ o ∧ o ≤ 2147483647) (hl : fr.List50 w A n c l) :
    Calls Try.prog 3 #[.int .i32 a, .int .i32 o, .slice A n c] w (fo.Says w true) := by
  obtain ⟨hf, hnc, hcm, hn, hbig, hs⟩ := hl
  have HF := bt.hide hf
  have HS := bt.hide hs
  have HBIG := bt.hide hbig
  have hni : (n : Int) ≤ 1048576 := by omega
  clear hf hs hbig hnc hcm hn
  go_enter Try.func3, Try.ntmps3
  go_wp2_with fail
  by_cases h1 : 1 ≤ a ∧ a ≤ 536870911
  rotate_left
  · refine (pu.numOk_no a _ (by omega)).mono ?_
    rintro e w1 ⟨rfl, rfl⟩
    go_wp2_with fail
    go_ret
    exact ⟨rfl, Below.refl _ _⟩
  refine (pu.numOk_yes a _ h1.1 h1.2).mono ?_
  rintro e w1 ⟨rfl, rfl⟩
  go_wp2_with fail
  by_cases h2 : 1 ≤ o ∧ o ≤ 536870911
  rotate_left
  · refine (pu.numOk_no o _ (by omega)).mono ?_
    rintro e w1 ⟨rfl, rfl⟩
    go_wp2_with fail
    go_ret
    exact ⟨rfl, Below.refl _ _⟩
  refine (pu.numOk_yes o _ h2.1 h2.2).mono ?_
  rintro e w1 ⟨rfl, rfl⟩
  by_cases hao : a = o
  · subst hao
    go_wp2_with fail
    go_ret
    exact ⟨rfl, Below.refl _ _⟩
  go_wp2_with fail
  refine (fo.fok w.heap.size 50 l A n c w (by decide) HF.out (Nat.le_refl _)).mono ?_
  rintro e w1 ⟨rfl, hb1⟩
  have HB1 := bt.hide hb1
  clear hb1
  rcases hok : pl.fieldsOk 50 l with _ | _
  · go_wp2_with fail
    go_ret
    exact ⟨rfl, HB1.out⟩
  have HOK := bt.hide hok
  have HG := bt.hide (show pl.G 10001 a (pl.fieldsB 50 l ++ pl.enc (pl.tagN o 4)) = none by
    have := pl.G_written 50 l a o [] hok HS.out (by decide) h2.1 h2.2
    rw [List.append_nil, if_neg (fun e => hao e.symm)] at this
    exact this)
  clear hok
  go_wp2_with fail
  refine (fw.flds w.heap.size 50 l A n c w1 (HF.out.below HB1.out) HB1.out.size HOK.out (by have := HBIG.out; omega)).mono ?_
  rintro e w2 ⟨v2, rfl, hown2, hb2⟩
  obtain ⟨A2, c2, rfl, hc2, hm2, hr2, _⟩ := hown2.form
  have HR2 := bt.hide hr2
  have HB2 := bt.hide (HB1.out.trans (hb2.mono HB1.out.size))
  have HX := bt.hide (show (pl.fieldsB 50 l).length ≤ 41943040 from HBIG.out)
  generalize pl.fieldsB 50 l = X at *
  clear hown2 hb2 hr2
  go_wp2_with fail
  refine (ap.iag none [] 0 0 A2 _ c2 X o w2 (by omega) (by omega) (mem.Rd.nil_ _ _ _) rfl HR2.out rfl (by have := HX.out; simp; omega)).mono ?_
  rintro e w3 ⟨v3, rfl, hown3, hb3⟩
  rw [List.nil_append] at hown3
  obtain ⟨A3, c3, rfl, hc3, hm3, hr3, _⟩ := hown3.form
  have HR3 := bt.hide hr3
  have HB3 := bt.hide (HB2.out.trans (hb3.mono HB2.out.size))
  generalize X ++ pl.enc (pl.tagN o 4) = Y at *
  clear hown3 hb3 hr3
  go_wp2_with fail
  refine (gr.icg_no A3 _ c3 Y w3 a HR3.out rfl hc3 hm3 ha HG.out).mono ?_
  rintro e w4 ⟨k, ⟨v4, rfl, hown4, hb4⟩, hk⟩
  have HB4 := bt.hide (HB3.out.trans (hb4.mono HB3.out.size))
  clear hown4 hb4
  go_wp2_with fail
  go_ret
  exact ⟨by simp, HB4.out⟩
end Go.Proofs.Ytacdclkhhgjkbaa.fnGroupOtherUpto
