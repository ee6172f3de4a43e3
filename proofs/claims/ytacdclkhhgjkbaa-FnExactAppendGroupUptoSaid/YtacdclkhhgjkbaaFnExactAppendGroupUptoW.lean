/-
  The walk of laws.FnExactAppendGroup.
-/
import Derived.Test.YtacdclkhhgjkbaaFrm
import Derived.Test.YtacdclkhhgjkbaaFldg
import Derived.Test.YtacdclkhhgjkbaaAppG
import Derived.ProofKit
namespace Go.Proofs.Ytacdclkhhgjkbaa.fnExactAppendGroupUpto
open Go.RowKit
set_option linter.unusedVariables false

set_option maxRecDepth 100000 in
set_option maxHeartbeats 1000000 in
theorem walk {H : Type} (A0 : Option Addr) (n0 c0 : Nat) (bs : List Nat) (a : Int) (A : Option Addr) (n c : Nat) (l : List (DataW H)) (w : World) (hb : fr.Bytes1 w A0 n0 c0 bs) (ha : -2147483648 ≤ a ∧ a ≤ 2147483647) (hl : fr.List50 w A n c l) :
    Calls Try.prog 6 #[.slice A0 n0 c0, .int .i32 a, .slice A n c] w (fo.Says w true) := by
  obtain ⟨hf, hnc, hcm, hn, hbig, hs⟩ := hl
  obtain ⟨hrd, hrl, -, -, hn1⟩ := hb
  have HF := bt.hide hf
  have HS := bt.hide hs
  have HBIG := bt.hide hbig
  have HM := bt.hide hrd
  have HLM := bt.hide hrl
  have hni : (n : Int) ≤ 1048576 := by omega
  have hni1 : (n0 : Int) ≤ 1048576 := by omega
  clear hf hs hbig hnc hcm hn hrd hrl hn1
  go_enter Try.func6, Try.ntmps6
  go_wp2_with fail
  by_cases h1 : 1 ≤ a ∧ a ≤ 536870911
  rotate_left
  · refine (pu.numOk_no a _ (by omega)).mono ?_
    rintro e w1 ⟨rfl, rfl⟩
    go_wp2_with fail
    go_ret
    exact ⟨rfl, Below.refl _ _⟩
  refine (pu.numOk_yes a _ h1.1 h1.2).mono ?_
  rintro e w1 ⟨rfl, rfl⟩
  go_wp2_with fail
  refine (fo.fok w.heap.size 50 l A n c w (by decide) HF.out (Nat.le_refl _)).mono ?_
  rintro e w1 ⟨rfl, hb1⟩
  have HB1 := bt.hide hb1
  clear hb1
  rcases hok : pl.fieldsOk 50 l with _ | _
  · go_wp2_with fail
    go_ret
    exact ⟨rfl, HB1.out⟩
  have HOK := bt.hide hok
  clear hok
  go_wp2_with fail
  refine (fw.flds w.heap.size 50 l A n c w1 (HF.out.below HB1.out) HB1.out.size HOK.out (by have := HBIG.out; omega)).mono ?_
  rintro e w2 ⟨v2, rfl, hown2, hb2⟩
  obtain ⟨A2, c2, rfl, hc2, hm2, hr2, _⟩ := hown2.form
  have HR2 := bt.hide hr2
  have HB2 := bt.hide (HB1.out.trans (hb2.mono HB1.out.size))
  have HX := bt.hide (show (pl.fieldsB 50 l).length ≤ 41943040 from HBIG.out)
  generalize pl.fieldsB 50 l = X at *
  have hXi : X.length ≤ 41943040 := HX.out
  have hbl : bs.length ≤ 1048576 := by rw [HLM.out]; omega
  have hel := pl.enc_len_le (pl.tagN a 4)
  have HM2 := bt.hide ((HM.out.below HB2.out).more HB2.out.size)
  have K1 := bt.hide (fun (W : World) (hW : Below w2.heap.size w2 W) => ap.iag A0 bs n0 c0 A2 X.length c2 X a W (by omega) (by omega) ((HM2.out.below hW).more hW.size) HLM.out.symm ((HR2.out.below hW).more hW.size) rfl (by omega))
  have K2 := bt.hide (fun (W : World) => pu.stag a 4 W (by omega) (by omega) (by decide) (by decide))
  have K3 := fun (W : World) => sw.svar W.heap.size (a * 8 + 4) W (by omega) (by omega) (Nat.le_refl _)
  rw [show (a * 8 + 4).toNat = pl.tagN a 4 by unfold pl.tagN; omega] at K3
  have K3 := bt.hide K3
  have q0 := fun (W : World) (hW : Below w2.heap.size w2 W) => (HM2.out.below hW).conv (dst := 9) Try.underlying25 Try.underlying5 Try.underlying9 n0 c0 HLM.out.symm
  have q1 := fun (W : World) (hW : Below w2.heap.size w2 W) => (HR2.out.below hW).conv (dst := 9) Try.underlying25 Try.underlying5 Try.underlying9 X.length c2 rfl
  have HE := bt.hide (mem.str_cat3 bs X (pl.enc (pl.tagN a 4)))
  have hns : ¬ 9223372036854775807 < (mem.str bs).size + (mem.str X).size := by rw [mem.str_size, mem.str_size]; omega
  have hns2 : ¬ 9223372036854775807 < (mem.str bs).size + (mem.str X).size + (mem.str (pl.enc (pl.tagN a 4))).size := by rw [mem.str_size, mem.str_size, mem.str_size]; omega
  clear hown2 hb2 hr2 hXi hbl hel
  go_wp2_with fail
  refine wp_region_held_drew (S := fun W' => Below w2.heap.size w2 W') (by kernel_rfl) (Below.refl _ _).drew (fun hHeld => ?_)
  refine wpAnyH_take (i := 0) (v := ?_) rfl (by kernel_rfl) (by kernel_rfl) (by kernel_rfl) (fun _ _ _ h => h) (Or.inl ⟨by rfl, ?_⟩) (by assumption) ?_
  rotate_left
  · intro W hSW; (try dsimp only at hSW); go_simp; (try with_reducible rfl)
  simp only [Act.put, List.setIfInBounds_toArray, List.set_cons_zero, List.set_cons_succ, List.getElem_toArray, List.getElem_cons_zero]
  refine wpAnyH_take (i := 1) (v := ?_) rfl (by kernel_rfl) (by kernel_rfl) (by kernel_rfl) (fun _ _ _ h => h) (Or.inl ⟨by rfl, ?_⟩) (by assumption) ?_
  rotate_left
  · intro W hSW; (try dsimp only at hSW); go_simp; (try with_reducible rfl)
  simp only [Act.put, List.setIfInBounds_toArray, List.set_cons_zero, List.set_cons_succ, List.getElem_toArray, List.getElem_cons_zero, List.getElem_cons_succ]
  refine wpAnyH_take (i := 2) (v := ?_) rfl (by kernel_rfl) (by kernel_rfl) (by kernel_rfl) (fun _ _ _ h => h) (Or.inl ⟨by rfl, ?_⟩) (by assumption) ?_
  rotate_left
  · intro W hSW; (try dsimp only at hSW); go_simp; (try with_reducible rfl)
  simp only [Act.put, List.setIfInBounds_toArray, List.set_cons_zero, List.set_cons_succ, List.getElem_toArray, List.getElem_cons_zero, List.getElem_cons_succ]
  refine wpAnyH_take (i := 5) (v := ?_) rfl (by kernel_rfl) (by kernel_rfl) (by kernel_rfl) (fun _ _ _ h => h) (Or.inl ⟨by rfl, ?_⟩) (by assumption) ?_
  rotate_left
  · intro W hSW; (try dsimp only at hSW); go_simp; (try with_reducible rfl)
  simp only [Act.put, List.setIfInBounds_toArray, List.set_cons_zero, List.set_cons_succ, List.getElem_toArray, List.getElem_cons_zero, List.getElem_cons_succ]
  refine wpAnyH_take (i := 6) (v := ?_) rfl (by kernel_rfl) (by kernel_rfl) (by kernel_rfl) (fun _ _ _ h => h) (Or.inl ⟨by rfl, ?_⟩) (by assumption) ?_
  rotate_left
  · intro W hSW; (try dsimp only at hSW); go_simp; (try with_reducible rfl)
  simp only [Act.put, List.setIfInBounds_toArray, List.set_cons_zero, List.set_cons_succ, List.getElem_toArray, List.getElem_cons_zero, List.getElem_cons_succ]
  refine wpAnyH_take (i := 7) (v := ?_) rfl (by kernel_rfl) (by kernel_rfl) (by kernel_rfl) (fun _ _ _ h => h) (Or.inl ⟨by rfl, ?_⟩) (by assumption) ?_
  rotate_left
  · intro W hSW; (try dsimp only at hSW); go_simp; (try with_reducible rfl)
  simp only [Act.put, List.setIfInBounds_toArray, List.set_cons_zero, List.set_cons_succ, List.getElem_toArray, List.getElem_cons_zero, List.getElem_cons_succ]
  refine wpAnyH_take (i := 8) (v := ?_) rfl (by kernel_rfl) (by kernel_rfl) (by kernel_rfl) (fun _ _ _ h => h) (Or.inl ⟨by rfl, ?_⟩) (by assumption) ?_
  rotate_left
  · intro W hSW; (try dsimp only at hSW); go_simp; (try with_reducible rfl)
  simp only [Act.put, List.setIfInBounds_toArray, List.set_cons_zero, List.set_cons_succ, List.getElem_toArray, List.getElem_cons_zero, List.getElem_cons_succ]
  refine wpAnyH_take (i := 9) (v := ?_) rfl (by kernel_rfl) (by kernel_rfl) (by kernel_rfl) (fun _ _ _ h => h) (Or.inl ⟨by rfl, ?_⟩) (by assumption) ?_
  rotate_left
  · intro W hSW; (try dsimp only at hSW); go_simp; (try with_reducible rfl)
  simp only [Act.put, List.setIfInBounds_toArray, List.set_cons_zero, List.set_cons_succ, List.getElem_toArray, List.getElem_cons_zero, List.getElem_cons_succ]
  refine wpAnyH_take (i := 10) (v := ?_) rfl (by kernel_rfl) (by kernel_rfl) (by kernel_rfl) (fun _ _ _ h => h) (Or.inl ⟨by rfl, ?_⟩) (by assumption) ?_
  rotate_left
  · intro W hSW; (try dsimp only at hSW); go_simp; (try with_reducible rfl)
  simp only [Act.put, List.setIfInBounds_toArray, List.set_cons_zero, List.set_cons_succ, List.getElem_toArray, List.getElem_cons_zero, List.getElem_cons_succ]
  refine wpAnyH_ready (rs := [3]) (by kernel_rfl) (by simp) ?_
  refine AllReadyH.cons rfl (fun K hK => ?_) AllReadyH.nil
  go_simp
  refine (K1.out _ (by assumption)).mono ?_
  rintro e w3 ⟨v3, rfl, hown3, hbel3⟩
  obtain ⟨A3, c3, rfl, _, _, hr3, _⟩ := hown3.form
  have B3 := bt.hide ((Below.refl _ _).drew.trans hbel3)
  have B3s := bt.hide (show w2.heap.size ≤ w3.heap.size from hbel3.size)
  have d1 := fun (W : World) (hW : Below w3.heap.size w3 W) => (hr3.below hW).conv (dst := 9) Try.underlying25 Try.underlying5 Try.underlying9 _ c3 rfl
  simp only [List.append_assoc, List.length_append] at d1
  clear hown3 hbel3 hr3
  go_wp2_with fail
  refine hK.out _ _ B3.out (fun hHeld1 => ?_)
  clear hK K hHeld
  refine mem.held_more (S' := fun W' => Below w3.heap.size w3 W') (fun W hW => B3.out.trans (hW.mono B3s.out)) _ _ _ _ ?_
  have hHeld2 : Below w3.heap.size w3 w3 := Below.refl _ _
  clear hHeld1
  refine wpAnyH_take (i := 4) (v := ?_) rfl (by kernel_rfl) (by kernel_rfl) (by kernel_rfl) (fun _ _ _ h => h) (Or.inl ⟨by rfl, ?_⟩) (by assumption) ?_
  rotate_left
  · intro W hSW; (try dsimp only at hSW); go_simp; (try with_reducible rfl)
  simp only [Act.put, List.setIfInBounds_toArray, List.set_cons_zero, List.set_cons_succ, List.getElem_toArray, List.getElem_cons_zero, List.getElem_cons_succ]
  refine wpAnyH_ready (rs := [11]) (by kernel_rfl) (by simp) ?_
  refine AllReadyH.cons rfl (fun K hK => ?_) AllReadyH.nil
  go_simp
  refine (K2.out _).mono ?_
  rintro e w' ⟨rfl, rfl⟩
  go_wp2_with fail
  refine hK.out _ _ hHeld2 (fun _ => ?_)
  clear hK K
  refine wpAnyH_ready (rs := [12]) (by kernel_rfl) (by simp) ?_
  refine AllReadyH.cons rfl (fun K hK => ?_) AllReadyH.nil
  go_simp
  refine (K3.out _).mono ?_
  rintro e w4 ⟨v4, rfl, hown4, hbel4⟩
  obtain ⟨A4, c4, rfl, _, _, hr4, _⟩ := hown4.form
  have B4 := bt.hide (B3.out.trans (hbel4.mono B3s.out))
  have d2 := fun (W : World) (hW : Below w4.heap.size w4 W) => (hr4.below hW).conv (dst := 9) Try.underlying25 Try.underlying5 Try.underlying9 _ c4 rfl
  clear hown4 hr4
  go_wp2_with fail
  refine hK.out _ _ hbel4 (fun hHeld3 => ?_)
  clear hK K hHeld2
  refine mem.held_more (S' := fun W' => Below w4.heap.size w4 W') (fun W hW => hHeld3.trans (hW.mono hHeld3.size)) _ _ _ _ ?_
  have hHeld4 : Below w4.heap.size w4 w4 := Below.refl _ _
  clear hHeld3 hbel4
  refine wpAnyH_take (i := 13) (v := ?_) rfl (by kernel_rfl) (by kernel_rfl) (by kernel_rfl) (fun _ _ _ h => h) (Or.inl ⟨by rfl, ?_⟩) (by assumption) ?_
  rotate_left
  · intro W hSW; (try dsimp only at hSW); go_simp; (try with_reducible rfl)
  simp only [Act.put, List.setIfInBounds_toArray, List.set_cons_zero, List.set_cons_succ, List.getElem_toArray, List.getElem_cons_zero, List.getElem_cons_succ]
  refine wpAnyH_take (i := 14) (v := ?_) rfl (by kernel_rfl) (by kernel_rfl) (by kernel_rfl) (fun _ _ _ h => h) (Or.inl ⟨by rfl, ?_⟩) (by assumption) ?_
  rotate_left
  · intro W hSW; (try dsimp only at hSW); go_simp; (try with_reducible rfl)
  simp only [Act.put, List.setIfInBounds_toArray, List.set_cons_zero, List.set_cons_succ, List.getElem_toArray, List.getElem_cons_zero, List.getElem_cons_succ]
  refine wpAnyH_take (i := 15) (v := ?_) rfl (by kernel_rfl) (by kernel_rfl) (by kernel_rfl) (fun _ _ _ h => h) (Or.inl ⟨by rfl, ?_⟩) (by assumption) ?_
  rotate_left
  · intro W hSW; (try dsimp only at hSW); go_simp; (try with_reducible rfl)
  simp only [Act.put, List.setIfInBounds_toArray, List.set_cons_zero, List.set_cons_succ, List.getElem_toArray, List.getElem_cons_zero, List.getElem_cons_succ]
  refine wpAnyH_take (i := 16) (v := ?_) rfl (by kernel_rfl) (by kernel_rfl) (by kernel_rfl) (fun _ _ _ h => h) (Or.inl ⟨by rfl, ?_⟩) (by assumption) ?_
  rotate_left
  · intro W hSW; (try dsimp only at hSW); go_simp; (try with_reducible rfl)
  simp only [Act.put, List.setIfInBounds_toArray, List.set_cons_zero, List.set_cons_succ, List.getElem_toArray, List.getElem_cons_zero, List.getElem_cons_succ]
  refine wpAnyH_done (by kernel_rfl) ?_ _
  rw [HE.out]
  go_wp2
  go_ret
  exact ⟨rfl, HB2.out.trans (B4.out.mono HB2.out.size)⟩
end Go.Proofs.Ytacdclkhhgjkbaa.fnExactAppendGroupUpto
