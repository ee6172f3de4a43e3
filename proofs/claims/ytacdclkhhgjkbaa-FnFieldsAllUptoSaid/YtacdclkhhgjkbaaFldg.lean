/-
  The contracts of the reference's Value and Fields, on fields of whatever number and depth.
-/
import Derived.Test.YtacdclkhhgjkbaaFlds
import Derived.Test.YtacdclkhhgjkbaaVal3
import Derived.Test.YtacdclkhhgjkbaaFok
namespace Go.Proofs.Ytacdclkhhgjkbaa.fw
open Go.RowKit Go.Proofs.Ytacdclkhhgjkbaa.fl
set_option linter.unusedVariables false
section
variable {H : Type}

/-- What Fields does with the fields below. -/
def Wr (H : Type) (B m : Nat) : Prop := ∀ (l : List (DataW H)) (A : Option Addr) (n c : Nat) (W : World), fm.Fl W B m A n l → B ≤ W.heap.size → pl.fieldsOk m l = true → (pl.fieldsB m l).length ≤ 2147483647 →
  Calls Try.prog 18 #[.slice A n c] W (mem.Gives W W.heap.size 5 (pl.fieldsB m l))

/-- Value on any field that can be written. -/
theorem valg (B deep : Nat) (d : DataW H) (a k v : Int) (A3 : Option Addr) (n3 c3 : Nat) (A4 : Option Addr) (n4 c4 : Nat) (w : World) (hB : B ≤ w.heap.size) (hok : pl.fieldsOk deep [d] = true) (hlen : (pl.valB (pl.below H deep) d).length ≤ 2147483647)
    (ha : a = pl.fNum d) (hk : k = pl.fKind d) (hv : v = ((pl.fV d : Nat) : Int)) (hn3 : n3 = (pl.fData d).length) (hv1 : pl.fV d < 18446744073709551616) (hr : mem.Rd w B A3 (pl.fData d)) (hkid : fm.Kid w B deep A4 n4 (pl.fKids d))
    (KF : ∀ m, deep = m + 1 → Wr H B m) :
    Calls Try.prog 27 #[.agg #[.int .i32 a, .int .i8 k, .int .u64 v, .slice A3 n3 c3, .slice A4 n4 c4]] w (mem.Gives w w.heap.size 5 (pl.valB (pl.below H deep) d)) := by
  obtain ⟨_, h1, h2, hkk, h3⟩ := pl.ok_parts hok
  rcases hkk with h | h | h | h | h
  · obtain rfl : k = 0 := by omega
    have := val0 a v A3 n3 c3 A4 n4 c4 w (by omega) (by omega)
    rw [show pl.valB (pl.below H deep) d = pl.enc v.toNat by rw [pl.valB, if_pos h, hv, Int.toNat_natCast]]
    exact this
  · obtain rfl : k = 1 := by omega
    have := val1 a v A3 n3 c3 A4 n4 c4 w (by omega) (by omega)
    rw [show pl.valB (pl.below H deep) d = pl.fix v.toNat 8 by rw [pl.valB, if_neg (by omega), if_neg (by omega), if_pos h, hv, Int.toNat_natCast]]
    exact this
  · obtain rfl : k = 2 := by omega
    have e : pl.valB (pl.below H deep) d = pl.enc n3 ++ pl.fData d := by rw [pl.valB, if_neg (by omega), if_neg (by omega), if_neg (by omega), if_pos h, hn3]
    rw [e] at hlen ⊢
    rw [List.length_append] at hlen
    exact val2 a v A3 n3 c3 A4 n4 c4 (pl.fData d) B w hr hB hn3.symm (by omega)
  · obtain rfl : k = 3 := by omega
    obtain ⟨m, rfl, hokm⟩ := h3 h
    have e : pl.valB (pl.below H (m + 1)) d = pl.fieldsB m (pl.fKids d) ++ pl.enc (pl.tagN (pl.fNum d) 4) := by
      rw [pl.valB, if_neg (by omega), if_neg (by omega), if_neg (by omega), if_neg (by omega)]
      rfl
    rw [e] at hlen ⊢
    rw [List.length_append] at hlen
    have ht : (a * 8 + 4).toNat = pl.tagN (pl.fNum d) 4 := by simp only [pl.tagN]; omega
    have KV := fun (W : World) => sw.svar W.heap.size (a * 8 + 4) W (by omega) (by omega) (Nat.le_refl _)
    rw [ht] at KV
    exact val3 a v (a * 8 + 4) A3 n3 c3 A4 n4 c4 _ _ w (pl.enc_len_le _) (by omega) (fun W hW => KF m rfl _ A4 n4 c4 W (fm.Fl.below hkid (hW.mono hB)) (Nat.le_trans hB hW.size) hokm (by omega))
      (fun W => pu.stag a 4 W (by omega) (by omega) (by decide) (by decide)) KV
  · obtain rfl : k = 5 := by omega
    have := val5 a v A3 n3 c3 A4 n4 c4 w (by omega) (by omega)
    rw [show pl.valB (pl.below H deep) d = pl.fix v.toNat 4 by rw [pl.valB, if_neg (by omega), if_pos h, hv, Int.toNat_natCast]]
    exact this

theorem flds_none (A : Option Addr) (c : Nat) (w : World) : Calls Try.prog 18 #[.slice A 0 c] w (mem.Gives w w.heap.size 5 []) := by
  go_enter Try.func18, Try.ntmps18
  go_wp2_with fail
  go_loopw [3, 9] (fun o i wr => i = .int .i64 0 ∧ mem.Own wr w.heap.size 5 o [] ∧ Hid (Below w.heap.size w wr)) (fun _ _ _ => 0)
  case atStart => exact ⟨rfl, mem.Own.empty w _ _ (Nat.le_refl _), bt.hide ((Below.refl _ _).alloc (Nat.le_refl _) _)⟩
  case round =>
    obtain ⟨rfl, hown, hbel⟩ := hrel
    go_wp2_with fail
    go_ret
    exact ⟨u3, rfl, hown, hbel.out⟩

set_option maxRecDepth 100000 in
set_option maxHeartbeats 1000000 in
theorem flds_some (B deep : Nat) (l : List (DataW H)) (b off n c : Nat) (w : World) (hf : fm.Fl w B deep (some ⟨b, off, none⟩) n l) (hB : B ≤ w.heap.size) (hok : pl.fieldsOk deep l = true) (hlen : (pl.fieldsB deep l).length ≤ 2147483647)
    (KF : ∀ m, deep = m + 1 → Wr H B m) :
    Calls Try.prog 18 #[.slice (some ⟨b, off, none⟩) n c] w (mem.Gives w w.heap.size 5 (pl.fieldsB deep l)) := by
  obtain ⟨i0, hi, hz0, hz1, hz2⟩ := info_parts ap.info8
  have H0 := bt.hide hz0
  have H1 := bt.hide hz1
  have H2 := bt.hide hz2
  have HI := bt.hide hi
  have HF := bt.hide hf
  have HOK := bt.hide hok
  have HKF := bt.hide KF
  have HLEN := bt.hide hlen
  have hni : (n : Int) ≤ 9223372036854775807 := by have := hf.row.2.1; simp [maxLen] at this; omega
  have HL := bt.hide hf.row.1
  clear hz0 hz1 hz2 hi hf hok KF hlen
  go_enter Try.func18, Try.ntmps18
  go_wp2_with fail
  go_loopw [3, 9] (fun o i wr => ∃ (j : Nat) (bs : List Nat), i = .int .i64 (j : Int) ∧ j ≤ n ∧ Hid (bs = pl.fieldsB deep (l.take j)) ∧ mem.Own wr w.heap.size 5 o bs ∧ Hid (Below w.heap.size w wr)) (fun _ i _ => (n - intOf i).toNat)
  case atStart => exact ⟨0, [], rfl, by omega, bt.hide (by rw [List.take_zero, pl.fieldsB_nil]), mem.Own.empty w _ _ (Nat.le_refl _), bt.hide ((Below.refl _ _).alloc (Nat.le_refl _) _)⟩
  case round =>
    obtain ⟨j, bs, rfl, hjn, hbs, hown, hbel⟩ := hrel
    by_cases hj : j < n
    rotate_left
    · have hj2 : decide (j < n) = false := by simpa using hj
      have HJ := bt.hide hj
      clear hj
      go_wp2_with fail
      go_ret
      refine ⟨u3, rfl, ?_, hbel.out⟩
      have := hbs.out
      have hlen := HL.out
      have hj := HJ.out
      rw [List.take_of_length_le (by omega)] at this
      rw [← this]
      exact hown
    · have hj2 : decide (j < n) = true := by simpa using hj
      have hbw := hbel.out.size
      have hw1 := hbel.out
      obtain ⟨hbB, hel⟩ := HF.out.at_ rfl hj
      obtain ⟨a, k, v, A3, n3, c3, A4, n4, c4, z0, z1, z2, z3, z4, HE⟩ := fo.open_el hel
      have hbw2 : b < w.heap.size := by omega
      have y0 := (hw1.cell (p := ⟨b, off + j * 5, none⟩) hbw2).trans z0
      have y1 := (hw1.cell (p := ⟨b, off + j * 5 + 1, none⟩) hbw2).trans z1
      have y2 := (hw1.cell (p := ⟨b, off + j * 5 + 2, none⟩) hbw2).trans z2
      have y3 := (hw1.cell (p := ⟨b, off + j * 5 + 3, none⟩) hbw2).trans z3
      have y4 := (hw1.cell (p := ⟨b, off + j * 5 + 4, none⟩) hbw2).trans z4
      clear z0 z1 z2 z3 z4
      have hjl : j < l.length := by rw [HL.out]; exact hj
      have hok1 := pl.fieldsOk_at deep l j hjl HOK.out
      obtain ⟨-, h1, h2, hkk, -⟩ := pl.ok_parts hok1
      have hstep := pl.fieldsB_step deep l j hjl
      have hup := pl.fieldsB_upto deep l (j + 1)
      have hlen := HLEN.out
      have ha := HE.out.1
      have hk := HE.out.2.1
      obtain ⟨T, hT⟩ : ∃ T, T = pl.enc (pl.tagN (pl.fNum (l.getD j .nil)) (pl.fKind (l.getD j .nil))) := ⟨_, rfl⟩
      obtain ⟨X, hX⟩ : ∃ X, X = pl.valB (pl.below H deep) (l.getD j .nil) := ⟨_, rfl⟩
      obtain ⟨tv, htv⟩ : ∃ tv : Int, tv = a * 8 + k := ⟨_, rfl⟩
      rw [← hT, ← hX] at hstep
      have hbl : bs.length + T.length + X.length ≤ 2147483647 := by
        rw [hbs.out]
        rw [hstep, List.length_append, List.length_append] at hup
        omega
      have HSTEP := bt.hide hstep
      have HKT : Hid (∀ W, Calls Try.prog 22 #[.int .i32 a, .int .i8 k] W fun e w' => e = .returned (.int .u64 tv) ∧ W = w') := bt.hide (fun W => by rw [htv]; exact pu.stag a k W (by omega) (by omega) (by omega) (by omega))
      have ht : tv.toNat = pl.tagN (pl.fNum (l.getD j .nil)) (pl.fKind (l.getD j .nil)) := by simp only [pl.tagN]; omega
      have HKV : Hid (∀ W, Calls Try.prog 21 #[.int .u64 tv] W (mem.Gives W W.heap.size 5 T)) := bt.hide (fun W => by
        have := sw.svar W.heap.size tv W (by omega) (by omega) (Nat.le_refl _)
        rw [ht, ← hT] at this
        exact this)
      have HKX : Hid (∀ W, Below w.heap.size w W → Calls Try.prog 27 #[.agg #[.int .i32 a, .int .i8 k, .int .u64 v, .slice A3 n3 c3, .slice A4 n4 c4]] W (mem.Gives W W.heap.size 5 X)) := bt.hide (fun W hW => by
        obtain ⟨e0, e1, e2, e3, _, _, e4, e5, _, e6⟩ := HE.out
        rw [hX]
        exact valg B deep _ a k v A3 n3 c3 A4 n4 c4 W (Nat.le_trans hB hW.size) hok1 (by rw [← hX]; omega) e0 e1 e2 e3 e4 (e5.below (hW.mono hB)) (fm.Kid.keep (Nat.le_refl _) (fun _ hp => (hW.mono hB).cell hp) _ _ _ _ e6) HKF.out)
      have HOWN := bt.hide hown
      have HBS := bt.hide hbs
      clear hown hbs hw1 hel HE hjl hok1 h1 h2 hkk hstep hup hlen ha hk hT hX htv ht
      go_wp2_with fail
      clear y0 y1 y2 y3 y4
      have hrow := heap_alloc_new wr (Obj.cells #[.int .i32 a, .int .i8 k, .int .u64 v, .slice A3 n3 c3, .slice A4 n4 c4] 41 (0, 0))
      have HS0 : Hid (mem.St w wr.heap.size (Obj.cells #[.int .i32 a, .int .i8 k, .int .u64 v, .slice A3 n3 c3, .slice A4 n4 c4] 41 (0, 0)) (wr.alloc (Obj.cells #[.int .i32 a, .int .i8 k, .int .u64 v, .slice A3 n3 c3, .slice A4 n4 c4] 41 (0, 0)))) := bt.hide ⟨hbel.out.alloc hbw _, hrow, hbw⟩
      have HO0 := bt.hide (HOWN.out.keepB ((Below.refl _ _).alloc (Nat.le_refl _) (Obj.cells #[.int .i32 a, .int .i8 k, .int .u64 v, .slice A3 n3 c3, .slice A4 n4 c4] 41 (0, 0))) (Nat.le_refl _))
      have HB0 : Hid (∀ g', Value.ownBlock u3 = some g' → g' < wr.heap.size) := bt.hide (fun g' hg' => (HOWN.out.2.2.lt g' hg').2)
      generalize wr.alloc (Obj.cells #[.int .i32 a, .int .i8 k, .int .u64 v, .slice A3 n3 c3, .slice A4 n4 c4] 41 (0, 0)) = w0 at *
      generalize wr.heap.size = p at *
      clear hrow hbel HOWN hbw
      have q0 := fun (W : World) (hW : mem.St w p (Obj.cells #[.int .i32 a, .int .i8 k, .int .u64 v, .slice A3 n3 c3, .slice A4 n4 c4] 41 (0, 0)) W) => (five hW.2.1).1
      have q1 := fun (W : World) (hW : mem.St w p (Obj.cells #[.int .i32 a, .int .i8 k, .int .u64 v, .slice A3 n3 c3, .slice A4 n4 c4] 41 (0, 0)) W) => (five hW.2.1).2.1
      have q2 := fun (W : World) (hW : mem.St w p (Obj.cells #[.int .i32 a, .int .i8 k, .int .u64 v, .slice A3 n3 c3, .slice A4 n4 c4] 41 (0, 0)) W) => (five hW.2.1).2.2.1
      have q3 := fun (W : World) (hW : mem.St w p (Obj.cells #[.int .i32 a, .int .i8 k, .int .u64 v, .slice A3 n3 c3, .slice A4 n4 c4] 41 (0, 0)) W) => (five hW.2.1).2.2.2.1
      have q4 := fun (W : World) (hW : mem.St w p (Obj.cells #[.int .i32 a, .int .i8 k, .int .u64 v, .slice A3 n3 c3, .slice A4 n4 c4] 41 (0, 0)) W) => (five hW.2.1).2.2.2.2
      have HSd := bt.hide (HS0.out.call (Below.refl _ _).drew)
      have HOd := bt.hide (HO0.out.keepB (Below.refl _ _).drew (Nat.le_refl _))
      refine wp_region_held_drew (S := mem.St w p (Obj.cells #[.int .i32 a, .int .i8 k, .int .u64 v, .slice A3 n3 c3, .slice A4 n4 c4] 41 (0, 0))) (by kernel_rfl) HSd.out (fun hHeld => ?_)
      generalize w0.drew = wd at *
      refine wpAnyH_take (i := 0) (v := ?_) rfl (by kernel_rfl) (by kernel_rfl) (by kernel_rfl) (fun _ _ _ h => h) (Or.inl ⟨by rfl, ?_⟩) (by assumption) ?_
      rotate_left
      · intro W hSW; (try dsimp only at hSW); go_simp; (try with_reducible rfl)
      simp only [Act.put, List.setIfInBounds_toArray, List.set_cons_zero, List.set_cons_succ, List.getElem_toArray, List.getElem_cons_zero]
      refine wpAnyH_take (i := 1) (v := ?_) rfl (by kernel_rfl) (by kernel_rfl) (by kernel_rfl) (fun _ _ _ h => h) (Or.inl ⟨by rfl, ?_⟩) (by assumption) ?_
      rotate_left
      · intro W hSW; (try dsimp only at hSW); go_simp; (try with_reducible rfl)
      simp only [Act.put, List.setIfInBounds_toArray, List.set_cons_zero, List.set_cons_succ, List.getElem_toArray, List.getElem_cons_zero, List.getElem_cons_succ]
      refine wpAnyH_take (i := 2) (v := ?_) rfl (by kernel_rfl) (by kernel_rfl) (by kernel_rfl) (fun _ _ _ h => h) (Or.inl ⟨by rfl, ?_⟩) (by assumption) ?_
      rotate_left
      · intro W hSW; (try dsimp only at hSW); go_simp; (try with_reducible rfl)
      simp only [Act.put, List.setIfInBounds_toArray, List.set_cons_zero, List.set_cons_succ, List.getElem_toArray, List.getElem_cons_zero, List.getElem_cons_succ]
      refine wpAnyH_take (i := 3) (v := ?_) rfl (by kernel_rfl) (by kernel_rfl) (by kernel_rfl) (fun _ _ _ h => h) (Or.inl ⟨by rfl, ?_⟩) (by assumption) ?_
      rotate_left
      · intro W hSW; (try dsimp only at hSW); go_simp; (try with_reducible rfl)
      simp only [Act.put, List.setIfInBounds_toArray, List.set_cons_zero, List.set_cons_succ, List.getElem_toArray, List.getElem_cons_zero, List.getElem_cons_succ]
      refine wpAnyH_take (i := 4) (v := ?_) rfl (by kernel_rfl) (by kernel_rfl) (by kernel_rfl) (fun _ _ _ h => h) (Or.inl ⟨by rfl, ?_⟩) (by assumption) ?_
      rotate_left
      · intro W hSW; (try dsimp only at hSW); go_simp; (try with_reducible rfl)
      simp only [Act.put, List.setIfInBounds_toArray, List.set_cons_zero, List.set_cons_succ, List.getElem_toArray, List.getElem_cons_zero, List.getElem_cons_succ]
      refine wpAnyH_take (i := 8) (v := ?_) rfl (by kernel_rfl) (by kernel_rfl) (by kernel_rfl) (fun _ _ _ h => h) (Or.inl ⟨by rfl, ?_⟩) (by assumption) ?_
      rotate_left
      · intro W hSW; (try dsimp only at hSW); go_simp; (try with_reducible rfl)
      simp only [Act.put, List.setIfInBounds_toArray, List.set_cons_zero, List.set_cons_succ, List.getElem_toArray, List.getElem_cons_zero, List.getElem_cons_succ]
      clear q0 q1 q2 q3 q4
      refine wpAnyH_ready (rs := [5]) (by kernel_rfl) (by simp) ?_
      refine AllReadyH.cons rfl (fun K hK => ?_) AllReadyH.nil
      go_simp
      refine (HKT.out _).mono ?_
      rintro e w' ⟨rfl, rfl⟩
      go_wp2_with fail
      refine hK.out _ _ HSd.out (fun _ => ?_)
      clear hK K
      refine wpAnyH_ready (rs := [6]) (by kernel_rfl) (by simp) ?_
      refine AllReadyH.cons rfl (fun K hK => ?_) AllReadyH.nil
      go_simp
      refine (HKV.out _).mono ?_
      rintro e w1 ⟨v1, rfl, hown, hb⟩
      have HS1 := bt.hide (HSd.out.call hb)
      have HO1 := bt.hide (HOd.out.keepB hb (Nat.le_refl _))
      have HZ1 := bt.hide (show p < wd.heap.size from HSd.out.lt)
      have HN1 := bt.hide hown
      have HT1 := bt.hide hown
      clear hown hb
      go_wp2_with fail
      refine hK.out _ _ HS1.out (fun _ => ?_)
      clear hK K
      refine wpAnyH_ready (rs := [7]) (by kernel_rfl) (by simp) ?_
      refine AllReadyH.cons rfl (fun K hK => ?_) AllReadyH.nil
      obtain ⟨A2, c2, e2, _, _, hr2, _⟩ := HT1.out.form
      subst e2
      have HR2 := bt.hide hr2
      clear hr2
      refine (if_pos (by kernel_rfl)).mpr ?_
      refine mem.wp_append_bytes _ _ _ 25 rfl w.heap.size 5 i0 Try.underlying25 HI.out H0.out H1.out H2.out _ bs rfl HO1.out w1.heap.size A2 T.length c2 T rfl rfl HR2.out (by omega) (Nat.le_trans HS1.out.2.2 (Nat.le_of_lt HS1.out.lt)) (fun v2 w2 hown hbel hgr => ?_)
      have HS2 := bt.hide (HS1.out.app hbel hgr (HO1.out.ne HS1.out.2.1 (by decide)))
      have HO2 := bt.hide hown
      clear hown hbel hgr
      simp only [Act.put, List.setIfInBounds_toArray, List.set_cons_zero, List.set_cons_succ, List.getElem_toArray, List.getElem_cons_zero, List.getElem_cons_succ]
      refine hK.out _ _ HS2.out (fun _ => ?_)
      clear hK K
      refine wpAnyH_ready (rs := [9]) (by kernel_rfl) (by simp) ?_
      refine AllReadyH.cons rfl (fun K hK => ?_) AllReadyH.nil
      go_simp
      refine (HKX.out _ HS2.out.1).mono ?_
      rintro e w3 ⟨v3, rfl, hown, hb⟩
      have HS3 := bt.hide (HS2.out.call hb)
      have HO3 := bt.hide (HO2.out.keepB hb (Nat.le_refl _))
      have HZ3 := bt.hide (show p < w2.heap.size from HS2.out.lt)
      have HN3 := bt.hide hown
      have HX3 := bt.hide hown
      have HBX := bt.hide (show p < w2.heap.size from HS2.out.lt)
      clear hown hb
      go_wp2_with fail
      refine hK.out _ _ HS3.out (fun _ => ?_)
      clear hK K
      refine wpAnyH_ready (rs := [10]) (by kernel_rfl) (by simp) ?_
      refine AllReadyH.cons rfl (fun K hK => ?_) AllReadyH.nil
      obtain ⟨A4, c4, e4, _, _, hr4, _⟩ := HX3.out.form
      subst e4
      have HR4 := bt.hide hr4
      clear hr4
      refine (if_pos (by kernel_rfl)).mpr ?_
      refine mem.wp_append_bytes _ _ _ 25 rfl w.heap.size 5 i0 Try.underlying25 HI.out H0.out H1.out H2.out _ (bs ++ T) rfl HO3.out w3.heap.size A4 X.length c4 X rfl rfl HR4.out (by rw [List.length_append]; omega) (Nat.le_trans HS3.out.2.2 (Nat.le_of_lt HS3.out.lt)) (fun v4 w4 hown hbel hgr => ?_)
      have HS4 := bt.hide (HS3.out.app hbel hgr (HO3.out.ne HS3.out.2.1 (by decide)))
      have HO4 := bt.hide hown
      clear hown hbel hgr
      simp only [Act.put, List.setIfInBounds_toArray, List.set_cons_zero, List.set_cons_succ, List.getElem_toArray, List.getElem_cons_zero, List.getElem_cons_succ]
      refine hK.out _ _ HS4.out (fun _ => ?_)
      clear hK K
      refine wpAnyH_take (i := 11) (v := ?_) rfl (by kernel_rfl) (by kernel_rfl) (by kernel_rfl) (fun _ _ _ h => h) (Or.inl ⟨by rfl, ?_⟩) (by assumption) ?_
      rotate_left
      · intro W hSW; (try dsimp only at hSW); go_simp; (try with_reducible rfl)
      simp only [Act.put, List.setIfInBounds_toArray, List.set_cons_zero, List.set_cons_succ, List.getElem_toArray, List.getElem_cons_zero, List.getElem_cons_succ]
      refine wpAnyH_done (by kernel_rfl) ?_ _
      go_wp2_with fail
      go_roundw
      case rel => exact ⟨j + 1, (bs ++ T) ++ X, by simp, by omega, bt.hide (by rw [HSTEP.out, ← HBS.out.out]), HO4.out, bt.hide HS4.out.1⟩
      case measure => simp [intOf]; omega

/-- Fields, at whatever depth. -/
theorem flds (B : Nat) (deep : Nat) : Wr H B deep := by
  induction deep with
  | zero =>
    intro l A n c w hf hB hok hlen
    rcases Nat.eq_zero_or_pos n with rfl | hn
    · have := hf.row.1
      obtain rfl := List.eq_nil_of_length_eq_zero this
      rw [pl.fieldsB_nil]
      exact flds_none A c w
    · obtain ⟨b, off, rfl, _⟩ := hf.row.2.2 hn
      exact flds_some B 0 l b off n c w hf hB hok hlen (fun m e => by omega)
  | succ deep ih =>
    intro l A n c w hf hB hok hlen
    rcases Nat.eq_zero_or_pos n with rfl | hn
    · have := hf.row.1
      obtain rfl := List.eq_nil_of_length_eq_zero this
      rw [pl.fieldsB_nil]
      exact flds_none A c w
    · obtain ⟨b, off, rfl, _⟩ := hf.row.2.2 hn
      refine flds_some B (deep + 1) l b off n c w hf hB hok hlen (fun m e => ?_)
      obtain rfl : deep = m := by omega
      exact ih
end
end Go.Proofs.Ytacdclkhhgjkbaa.fw
