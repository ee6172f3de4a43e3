/-
  The contract of the reference's Fields on one field, whatever its value's contract.
-/
import Derived.Test.YtacdclkhhgjkbaaFld
import Derived.Test.YtacdclkhhgjkbaaAppW
namespace Go.Proofs.Ytacdclkhhgjkbaa.fl
open Go.RowKit
set_option linter.unusedVariables false

set_option maxRecDepth 100000 in
set_option maxHeartbeats 800000 in
theorem flds1 (a k v tv : Int) (A3 : Option Addr) (n3 c3 : Nat) (A4 : Option Addr) (n4 c4 : Nat) (T X : List Nat) (g : Nat) (w : World) (t : TypeId) (hg : w.heap[g]? = some (.cells #[.int .i32 a, .int .i8 k, .int .u64 v, .slice A3 n3 c3, .slice A4 n4 c4] t (0, 0)))
    (hT : T.length ≤ 10) (hX : X.length ≤ 2147483660)
    (KT : ∀ W, Calls Try.prog 22 #[.int .i32 a, .int .i8 k] W fun e w' => e = .returned (.int .u64 tv) ∧ W = w')
    (KV : ∀ W, Calls Try.prog 21 #[.int .u64 tv] W (mem.Gives W W.heap.size 5 T))
    (KX : ∀ W, Below w.heap.size w W → Calls Try.prog 27 #[.agg #[.int .i32 a, .int .i8 k, .int .u64 v, .slice A3 n3 c3, .slice A4 n4 c4]] W (mem.Gives W W.heap.size 5 X)) :
    Calls Try.prog 18 #[.slice (some ⟨g, 0, none⟩) 1 1] w (mem.Gives w w.heap.size 5 (T ++ X)) := by
  obtain ⟨i0, hi, hz0, hz1, hz2⟩ := info_parts ap.info8
  have H0 := bt.hide hz0
  have H1 := bt.hide hz1
  have H2 := bt.hide hz2
  have HI := bt.hide hi
  have HKT := bt.hide KT
  have HKV := bt.hide KV
  have HKX := bt.hide KX
  have HG := bt.hide hg
  have hgw : g < w.heap.size := (Array.getElem?_eq_some_iff.1 hg).1
  clear hz0 hz1 hz2 hi KT KV KX hg
  go_enter Try.func18, Try.ntmps18
  go_wp2_with fail
  go_loopw [3, 9] (fun o i wr => ∃ bs : List Nat, ((i = .int .i64 0 ∧ bs = []) ∨ (i = .int .i64 1 ∧ bs = T ++ X)) ∧ mem.Own wr w.heap.size 5 o bs ∧ Hid (Below w.heap.size w wr)) (fun _ i _ => (1 - intOf i).toNat)
  case atStart => exact ⟨[], .inl ⟨rfl, rfl⟩, mem.Own.empty w _ _ (Nat.le_refl _), bt.hide ((Below.refl _ _).alloc (Nat.le_refl _) _)⟩
  case round =>
    obtain ⟨bs, ⟨rfl, hbs⟩ | ⟨rfl, hbs⟩, hown, hbel⟩ := hrel
    · obtain ⟨y0, y1, y2, y3, y4⟩ := five ((hbel.out.block g hgw).trans HG.out)
      have hbw := hbel.out.size
      have HOWN := bt.hide hown
      have hbl : bs.length = 0 := by rw [hbs]; rfl
      have HBS := bt.hide hbs
      clear hown hbs
      go_wp2_with fail
      clear y0 y1 y2 y3 y4
      have hrow := heap_alloc_new wr (Obj.cells #[.int .i32 a, .int .i8 k, .int .u64 v, .slice A3 n3 c3, .slice A4 n4 c4] 41 (0, 0))
      have HS0 : Hid (mem.St w wr.heap.size (Obj.cells #[.int .i32 a, .int .i8 k, .int .u64 v, .slice A3 n3 c3, .slice A4 n4 c4] 41 (0, 0)) (wr.alloc (Obj.cells #[.int .i32 a, .int .i8 k, .int .u64 v, .slice A3 n3 c3, .slice A4 n4 c4] 41 (0, 0)))) := bt.hide ⟨hbel.out.alloc hbw _, hrow, hbw⟩
      have HO0 := bt.hide (HOWN.out.keepB ((Below.refl _ _).alloc (Nat.le_refl _) (Obj.cells #[.int .i32 a, .int .i8 k, .int .u64 v, .slice A3 n3 c3, .slice A4 n4 c4] 41 (0, 0))) (Nat.le_refl _))
      have HB0 : Hid (∀ g', Value.ownBlock u3 = some g' → g' < wr.heap.size) := bt.hide (fun g' hg' => (HOWN.out.2.2.lt g' hg').2)
      generalize wr.alloc (Obj.cells #[.int .i32 a, .int .i8 k, .int .u64 v, .slice A3 n3 c3, .slice A4 n4 c4] 41 (0, 0)) = w0 at *
      generalize wr.heap.size = p at *
      clear hrow hbel HOWN hbw
      have q0 := fun (W : World) (hW : mem.St w p (Obj.cells #[.int .i32 a, .int .i8 k, .int .u64 v, .slice A3 n3 c3, .slice A4 n4 c4] 41 (0, 0)) W) => (five hW.2.1).1
      have q1 := fun (W : World) (hW : mem.St w p (Obj.cells #[.int .i32 a, .int .i8 k, .int .u64 v, .slice A3 n3 c3, .slice A4 n4 c4] 41 (0, 0)) W) => (five hW.2.1).2.1
      have q2 := fun (W : World) (hW : mem.St w p (Obj.cells #[.int .i32 a, .int .i8 k, .int .u64 v, .slice A3 n3 c3, .slice A4 n4 c4] 41 (0, 0)) W) => (five hW.2.1).2.2.1
      have q3 := fun (W : World) (hW : mem.St w p (Obj.cells #[.int .i32 a, .int .i8 k, .int .u64 v, .slice A3 n3 c3, .slice A4 n4 c4] 41 (0, 0)) W) => (five hW.2.1).2.2.2.1
      have q4 := fun (W : World) (hW : mem.St w p (Obj.cells #[.int .i32 a, .int .i8 k, .int .u64 v, .slice A3 n3 c3, .slice A4 n4 c4] 41 (0, 0)) W) => (five hW.2.1).2.2.2.2
      have HSd := bt.hide (HS0.out.call (Below.refl _ _).drew)
      have HOd := bt.hide (HO0.out.keepB (Below.refl _ _).drew (Nat.le_refl _))
      refine wp_region_held_drew (S := mem.St w p (Obj.cells #[.int .i32 a, .int .i8 k, .int .u64 v, .slice A3 n3 c3, .slice A4 n4 c4] 41 (0, 0))) (by kernel_rfl) HSd.out (fun hHeld => ?_)
      generalize w0.drew = wd at *
      refine wpAnyH_take (i := 0) (v := ?_) rfl (by kernel_rfl) (by kernel_rfl) (by kernel_rfl) (fun _ _ _ h => h) (Or.inl ⟨by rfl, ?_⟩) (by assumption) ?_
      rotate_left
      · intro W hSW; (try dsimp only at hSW); go_simp; (try with_reducible rfl)
      simp only [Act.put, List.setIfInBounds_toArray, List.set_cons_zero, List.set_cons_succ, List.getElem_toArray, List.getElem_cons_zero]
      refine wpAnyH_take (i := 1) (v := ?_) rfl (by kernel_rfl) (by kernel_rfl) (by kernel_rfl) (fun _ _ _ h => h) (Or.inl ⟨by rfl, ?_⟩) (by assumption) ?_
      rotate_left
      · intro W hSW; (try dsimp only at hSW); go_simp; (try with_reducible rfl)
      simp only [Act.put, List.setIfInBounds_toArray, List.set_cons_zero, List.set_cons_succ, List.getElem_toArray, List.getElem_cons_zero, List.getElem_cons_succ]
      refine wpAnyH_take (i := 2) (v := ?_) rfl (by kernel_rfl) (by kernel_rfl) (by kernel_rfl) (fun _ _ _ h => h) (Or.inl ⟨by rfl, ?_⟩) (by assumption) ?_
      rotate_left
      · intro W hSW; (try dsimp only at hSW); go_simp; (try with_reducible rfl)
      simp only [Act.put, List.setIfInBounds_toArray, List.set_cons_zero, List.set_cons_succ, List.getElem_toArray, List.getElem_cons_zero, List.getElem_cons_succ]
      refine wpAnyH_take (i := 3) (v := ?_) rfl (by kernel_rfl) (by kernel_rfl) (by kernel_rfl) (fun _ _ _ h => h) (Or.inl ⟨by rfl, ?_⟩) (by assumption) ?_
      rotate_left
      · intro W hSW; (try dsimp only at hSW); go_simp; (try with_reducible rfl)
      simp only [Act.put, List.setIfInBounds_toArray, List.set_cons_zero, List.set_cons_succ, List.getElem_toArray, List.getElem_cons_zero, List.getElem_cons_succ]
      refine wpAnyH_take (i := 4) (v := ?_) rfl (by kernel_rfl) (by kernel_rfl) (by kernel_rfl) (fun _ _ _ h => h) (Or.inl ⟨by rfl, ?_⟩) (by assumption) ?_
      rotate_left
      · intro W hSW; (try dsimp only at hSW); go_simp; (try with_reducible rfl)
      simp only [Act.put, List.setIfInBounds_toArray, List.set_cons_zero, List.set_cons_succ, List.getElem_toArray, List.getElem_cons_zero, List.getElem_cons_succ]
      refine wpAnyH_take (i := 8) (v := ?_) rfl (by kernel_rfl) (by kernel_rfl) (by kernel_rfl) (fun _ _ _ h => h) (Or.inl ⟨by rfl, ?_⟩) (by assumption) ?_
      rotate_left
      · intro W hSW; (try dsimp only at hSW); go_simp; (try with_reducible rfl)
      simp only [Act.put, List.setIfInBounds_toArray, List.set_cons_zero, List.set_cons_succ, List.getElem_toArray, List.getElem_cons_zero, List.getElem_cons_succ]
      clear q0 q1 q2 q3 q4
      refine wpAnyH_ready (rs := [5]) (by kernel_rfl) (by simp) ?_
      refine AllReadyH.cons rfl (fun K hK => ?_) AllReadyH.nil
      go_simp
      refine (HKT.out _).mono ?_
      rintro e w' ⟨rfl, rfl⟩
      go_wp2_with fail
      refine hK.out _ _ HSd.out (fun _ => ?_)
      clear hK K
      refine wpAnyH_ready (rs := [6]) (by kernel_rfl) (by simp) ?_
      refine AllReadyH.cons rfl (fun K hK => ?_) AllReadyH.nil
      go_simp
      refine (HKV.out _).mono ?_
      rintro e w1 ⟨v1, rfl, hown, hb⟩
      have HS1 := bt.hide (HSd.out.call hb)
      have HO1 := bt.hide (HOd.out.keepB hb (Nat.le_refl _))
      have HZ1 := bt.hide (show p < wd.heap.size from HSd.out.lt)
      have HN1 := bt.hide hown
      have HT1 := bt.hide hown
      clear hown hb
      go_wp2_with fail
      refine hK.out _ _ HS1.out (fun _ => ?_)
      clear hK K
      refine wpAnyH_ready (rs := [7]) (by kernel_rfl) (by simp) ?_
      refine AllReadyH.cons rfl (fun K hK => ?_) AllReadyH.nil
      obtain ⟨A2, c2, e2, _, _, hr2, _⟩ := HT1.out.form
      subst e2
      have HR2 := bt.hide hr2
      clear hr2
      refine (if_pos (by kernel_rfl)).mpr ?_
      refine mem.wp_append_bytes _ _ _ 25 rfl w.heap.size 5 i0 Try.underlying25 HI.out H0.out H1.out H2.out _ bs rfl HO1.out w1.heap.size A2 T.length c2 T rfl rfl HR2.out (by omega) (Nat.le_trans HS1.out.2.2 (Nat.le_of_lt HS1.out.lt)) (fun v2 w2 hown hbel hgr => ?_)
      have HS2 := bt.hide (HS1.out.app hbel hgr (HO1.out.ne HS1.out.2.1 (by decide)))
      have HO2 := bt.hide hown
      clear hown hbel hgr
      simp only [Act.put, List.setIfInBounds_toArray, List.set_cons_zero, List.set_cons_succ, List.getElem_toArray, List.getElem_cons_zero, List.getElem_cons_succ]
      refine hK.out _ _ HS2.out (fun _ => ?_)
      clear hK K
      refine wpAnyH_ready (rs := [9]) (by kernel_rfl) (by simp) ?_
      refine AllReadyH.cons rfl (fun K hK => ?_) AllReadyH.nil
      go_simp
      refine (HKX.out _ HS2.out.1).mono ?_
      rintro e w3 ⟨v3, rfl, hown, hb⟩
      have HS3 := bt.hide (HS2.out.call hb)
      have HO3 := bt.hide (HO2.out.keepB hb (Nat.le_refl _))
      have HZ3 := bt.hide (show p < w2.heap.size from HS2.out.lt)
      have HN3 := bt.hide hown
      have HX3 := bt.hide hown
      have HBX := bt.hide (show p < w2.heap.size from HS2.out.lt)
      clear hown hb
      go_wp2_with fail
      refine hK.out _ _ HS3.out (fun _ => ?_)
      clear hK K
      refine wpAnyH_ready (rs := [10]) (by kernel_rfl) (by simp) ?_
      refine AllReadyH.cons rfl (fun K hK => ?_) AllReadyH.nil
      obtain ⟨A4, c4, e4, _, _, hr4, _⟩ := HX3.out.form
      subst e4
      have HR4 := bt.hide hr4
      clear hr4
      refine (if_pos (by kernel_rfl)).mpr ?_
      refine mem.wp_append_bytes _ _ _ 25 rfl w.heap.size 5 i0 Try.underlying25 HI.out H0.out H1.out H2.out _ (bs ++ T) rfl HO3.out w3.heap.size A4 X.length c4 X rfl rfl HR4.out (by rw [List.length_append]; omega) (Nat.le_trans HS3.out.2.2 (Nat.le_of_lt HS3.out.lt)) (fun v4 w4 hown hbel hgr => ?_)
      have HS4 := bt.hide (HS3.out.app hbel hgr (HO3.out.ne HS3.out.2.1 (by decide)))
      have HO4 := bt.hide hown
      clear hown hbel hgr
      simp only [Act.put, List.setIfInBounds_toArray, List.set_cons_zero, List.set_cons_succ, List.getElem_toArray, List.getElem_cons_zero, List.getElem_cons_succ]
      refine hK.out _ _ HS4.out (fun _ => ?_)
      clear hK K
      refine wpAnyH_take (i := 11) (v := ?_) rfl (by kernel_rfl) (by kernel_rfl) (by kernel_rfl) (fun _ _ _ h => h) (Or.inl ⟨by rfl, ?_⟩) (by assumption) ?_
      rotate_left
      · intro W hSW; (try dsimp only at hSW); go_simp; (try with_reducible rfl)
      simp only [Act.put, List.setIfInBounds_toArray, List.set_cons_zero, List.set_cons_succ, List.getElem_toArray, List.getElem_cons_zero, List.getElem_cons_succ]
      refine wpAnyH_done (by kernel_rfl) ?_ _
      go_wp2_with fail
      go_roundw
      case rel => exact ⟨_, .inr ⟨rfl, rfl⟩, by have := HO4.out; rw [HBS.out, List.nil_append] at this; exact this, bt.hide HS4.out.1⟩
      case measure => simp [intOf]
    · go_wp2_with fail
      go_ret
      exact ⟨u3, rfl, by rw [← hbs]; exact hown, hbel.out⟩
end Go.Proofs.Ytacdclkhhgjkbaa.fl
