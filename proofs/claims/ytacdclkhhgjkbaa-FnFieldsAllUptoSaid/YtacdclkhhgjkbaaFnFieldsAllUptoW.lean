/-
  The walk of laws.FnFieldsAll.
-/
import Derived.Test.YtacdclkhhgjkbaaFrm
import Derived.Test.YtacdclkhhgjkbaaFldg
import Derived.ProofKit
namespace Go.Proofs.Ytacdclkhhgjkbaa.fnFieldsAllUpto
open Go.RowKit
set_option linter.unusedVariables false

theorem step {H : Type} (l : List (DataW H)) (j : Nat) (h : j < l.length) : pl.fieldsB 50 (l.drop j) = pl.fieldsB 50 [l.getD j .nil] ++ pl.fieldsB 50 (l.drop (j + 1)) := by
  rw [← pl.fieldsB_append, List.drop_eq_getElem_cons h, List.getD_eq_getElem?_getD, List.getElem?_eq_getElem h]
  rfl
theorem sane_at {H : Type} (l : List (DataW H)) (j : Nat) (h : j < l.length) (hs : pl.sane 50 l) : pl.sane 50 [l.getD j .nil] := by
  intro x hx
  obtain rfl : x = l.getD j .nil := by simpa using hx
  refine hs _ ?_
  rw [List.getD_eq_getElem?_getD, List.getElem?_eq_getElem h]
  exact List.getElem_mem h

set_option maxRecDepth 100000 in
set_option maxHeartbeats 1000000 in
theorem walk {H : Type} (A : Option Addr) (n c : Nat) (l : List (DataW H)) (w : World) (hl : fr.List50 w A n c l) :
    Calls Try.prog 13 #[.slice A n c] w (fo.Says w true) := by
  obtain ⟨hf, hnc, hcm, hn, hbig, hs⟩ := hl
  have HF := bt.hide hf
  have HS := bt.hide hs
  have HBIG := bt.hide hbig
  have HL := bt.hide hf.row.1
  have hni : (n : Int) ≤ 1048576 := by omega
  clear hf hs hbig hnc hcm hn
  go_enter Try.func13, Try.ntmps13
  go_wp2_with fail
  refine (fo.fok w.heap.size 50 l A n c w (by decide) HF.out (Nat.le_refl _)).mono ?_
  rintro e w1 ⟨rfl, hb1⟩
  have HB1 := bt.hide hb1
  clear hb1
  rcases hok : pl.fieldsOk 50 l with _ | _
  · go_wp2_with fail
    go_ret
    exact ⟨rfl, HB1.out⟩
  have HOK := bt.hide hok
  clear hok
  go_wp2_with fail
  refine (fw.flds w.heap.size 50 l A n c w1 (HF.out.below HB1.out) HB1.out.size HOK.out (by have := HBIG.out; omega)).mono ?_
  rintro e w2 ⟨v2, rfl, hown2, hb2⟩
  obtain ⟨A2, c2, rfl, hc2, hm2, hr2, _⟩ := hown2.form
  have HR2 := bt.hide hr2
  have HB2 := bt.hide (HB1.out.trans (hb2.mono HB1.out.size))
  obtain ⟨m0, hm0⟩ : ∃ m0, m0 = (pl.fieldsB 50 l).length := ⟨_, rfl⟩
  have hm0b : m0 ≤ 41943040 := by rw [hm0]; exact HBIG.out
  rw [← hm0]
  rw [← hm0] at hc2
  have HM0 := bt.hide hm0
  obtain ⟨i0, hi, hz0, hz1, hz2⟩ := info_parts ap.info8
  have H1 := bt.hide hz1
  have HI := bt.hide hi
  clear hown2 hb2 hr2 hm0 hz0 hz1 hz2 hi
  go_wp2_with fail
  go_loopw [3, 19] (fun b i wr => ∃ (j m cj : Nat) (Aj : Option Addr), i = .int .i64 (j : Int) ∧ b = .slice Aj m cj ∧ j ≤ n ∧ m ≤ 41943040 ∧ m ≤ cj ∧ cj ≤ maxLen ∧ Hid (m = (pl.fieldsB 50 (l.drop j)).length) ∧ Hid (mem.Rd wr wr.heap.size Aj (pl.fieldsB 50 (l.drop j))) ∧ Hid (Below w.heap.size w wr)) (fun _ i _ => (n - intOf i).toNat)
  case atStart => exact ⟨0, m0, c2, A2, rfl, rfl, by omega, hm0b, hc2, hm2, bt.hide (by rw [List.drop_zero]; exact HM0.out), bt.hide (by rw [List.drop_zero]; exact HR2.out), HB2⟩
  case round =>
    obtain ⟨j, m, cj, Aj, rfl, rfl, hjn, hm, hmc, hcm, hml, hrd, hbel⟩ := hrel
    by_cases hj : j < n
    rotate_left
    · have hj2 : decide (j < n) = false := by simpa using hj
      have HM1 : m = 0 := by
        rw [hml.out, List.drop_of_length_le (by rw [HL.out]; omega), pl.fieldsB_nil]
        rfl
      subst HM1
      clear hj
      go_wp2_with fail
      refine (co.works _).mono ?_
      rintro e w4 ⟨rfl, hb4⟩
      have HB4 := bt.hide (hbel.out.trans (hb4.mono hbel.out.size))
      clear hb4
      go_wp2_with fail
      go_ret
      exact ⟨rfl, HB4.out⟩
    · have hj2 : decide (j < n) = true := by simpa using hj
      obtain ⟨b, off, rfl, _⟩ := HF.out.row.2.2 (by omega)
      have hbw := hbel.out.size
      obtain ⟨hbB, hel⟩ := HF.out.at_ rfl hj
      obtain ⟨a, k, v, A3, n3, c3, A4, n4, c4, z0, z1, z2, z3, z4, HE⟩ := fo.open_el hel
      have y0 := (hbel.out.cell (p := ⟨b, off + j * 5, none⟩) hbB).trans z0
      have y1 := (hbel.out.cell (p := ⟨b, off + j * 5 + 1, none⟩) hbB).trans z1
      have y2 := (hbel.out.cell (p := ⟨b, off + j * 5 + 2, none⟩) hbB).trans z2
      have y3 := (hbel.out.cell (p := ⟨b, off + j * 5 + 3, none⟩) hbB).trans z3
      have y4 := (hbel.out.cell (p := ⟨b, off + j * 5 + 4, none⟩) hbB).trans z4
      have hjl : j < l.length := by rw [HL.out]; exact hj
      have hok1 := pl.fieldsOk_at 50 l j hjl HOK.out
      have hst := step l j hjl
      have hFW := va.F_written 50 (l.getD j .nil) (pl.fieldsB 50 (l.drop (j + 1))) hok1 (sane_at l j hjl HS.out) (by decide)
      rw [← hst] at hFW
      obtain ⟨-, g1, g2, gk, -⟩ := pl.ok_parts hok1
      have hak := HE.out.1
      have hkk := HE.out.2.1
      have HN := bt.hide (show ((pl.fNum (l.getD j .nil)).toNat : Int) = a by omega)
      have HK := bt.hide (show ((pl.fKind (l.getD j .nil)).toNat : Int) = k by omega)
      have hlen1 : 1 ≤ (pl.fieldsB 50 [l.getD j .nil]).length := pl.fieldsB_len 50 [l.getD j .nil]
      have hlm : (pl.fieldsB 50 [l.getD j .nil]).length + (pl.fieldsB 50 (l.drop (j + 1))).length = m := by rw [hml.out, hst, List.length_append]
      have hdrop : (pl.fieldsB 50 (l.drop j)).drop (pl.fieldsB 50 [l.getD j .nil]).length = pl.fieldsB 50 (l.drop (j + 1)) := by rw [hst, List.drop_left]
      obtain ⟨q, hq⟩ : ∃ q, q = (pl.fieldsB 50 [l.getD j .nil]).length := ⟨_, rfl⟩
      rw [← hq] at hFW hlen1 hlm hdrop
      have HDR := bt.hide hdrop
      have HFW := bt.hide hFW
      have HLM := bt.hide hlm
      have hqm : q ≤ m := by omega
      generalize pl.fieldsB 50 (l.drop j) = Z at *
      clear z0 z1 z2 z3 z4 hel HE hok1 hst hFW g1 g2 gk hak hkk hlm hdrop hq hjl
      go_wp2_with fail
      clear y0 y1 y2 y3 y4
      have hrow := heap_alloc_new wr (Obj.cells #[.int .i32 a, .int .i8 k, .int .u64 v, .slice A3 n3 c3, .slice A4 n4 c4] 41 (0, 0))
      have HROW := bt.hide hrow
      have HB0 := bt.hide (hbel.out.alloc hbw (Obj.cells #[.int .i32 a, .int .i8 k, .int .u64 v, .slice A3 n3 c3, .slice A4 n4 c4] 41 (0, 0)))
      have HR0 := bt.hide ((hrd.out.below ((Below.refl wr.heap.size wr).alloc (Nat.le_refl _) (Obj.cells #[.int .i32 a, .int .i8 k, .int .u64 v, .slice A3 n3 c3, .slice A4 n4 c4] 41 (0, 0)))).more (show wr.heap.size ≤ (wr.alloc (Obj.cells #[.int .i32 a, .int .i8 k, .int .u64 v, .slice A3 n3 c3, .slice A4 n4 c4] 41 (0, 0))).heap.size by simp))
      have hsz0 : wr.heap.size < (wr.alloc (Obj.cells #[.int .i32 a, .int .i8 k, .int .u64 v, .slice A3 n3 c3, .slice A4 n4 c4] 41 (0, 0))).heap.size := by simp
      generalize wr.alloc (Obj.cells #[.int .i32 a, .int .i8 k, .int .u64 v, .slice A3 n3 c3, .slice A4 n4 c4] 41 (0, 0)) = w5 at *
      clear hrow
      have K1 := va.icfl Aj m cj Z w5 HR0.out hml.out hmc hcm
      rw [HFW.out] at K1
      have K1 := bt.hide K1
      refine (K1.out).mono ?_
      rintro e w6 ⟨x, y, r, rfl, hb6, rfl, rfl, rfl⟩
      have hrow6 := (hb6.block wr.heap.size hsz0).trans HROW.out
      have HB6 := bt.hide (HB0.out.trans (hb6.mono (by omega)))
      have HR6 := bt.hide ((HR0.out.below hb6).more hb6.size)
      obtain ⟨y0, y1, y2, y3, y4⟩ := fl.five hrow6
      clear hb6 hrow6
      dsimp only
      rw [HN.out, HK.out]
      have s1 := fun (W : World) => mem.run_cut (w := W) (A := Aj) (n := m) (c := cj) Try.underlying25 HI.out H1.out q hqm .i64
      have HRC := bt.hide (HR6.out.cut q cj (by rw [← hml.out]; exact hmc))
      have e1 : ¬ ((q : Int) < 1) := by omega
      have e2 : ¬ (m < q) := by omega
      go_wp2_with fail
      go_roundw
      case rel => exact ⟨j + 1, m - q, cj - q, mem.cutA Aj cj q, by simp, by simp, by omega, by omega, by omega, by omega, bt.hide (by have := HLM.out; omega), bt.hide (by have := HRC.out; rw [HDR.out] at this; exact this), HB6⟩
      case measure => simp [intOf]; omega
end Go.Proofs.Ytacdclkhhgjkbaa.fnFieldsAllUpto
