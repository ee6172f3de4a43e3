/-
  The contract of the reference's Value on a group, given that of Fields on its kids.
-/
import Derived.Test.YtacdclkhhgjkbaaVal2
namespace Go.Proofs.Ytacdclkhhgjkbaa.fl
open Go.RowKit
set_option linter.unusedVariables false

set_option maxRecDepth 100000 in
set_option maxHeartbeats 400000 in
theorem val3 (a v tv : Int) (A3 : Option Addr) (n3 c3 : Nat) (A4 : Option Addr) (n4 c4 : Nat) (X T : List Nat) (w : World) (hT : T.length ≤ 10) (hX : X.length ≤ 2147483660)
    (KF : ∀ W, Below w.heap.size w W → Calls Try.prog 18 #[.slice A4 n4 c4] W (mem.Gives W W.heap.size 5 X))
    (KT : ∀ W, Calls Try.prog 22 #[.int .i32 a, .int .i8 4] W fun e w' => e = .returned (.int .u64 tv) ∧ W = w')
    (KV : ∀ W, Calls Try.prog 21 #[.int .u64 tv] W (mem.Gives W W.heap.size 5 T)) :
    Calls Try.prog 27 #[.agg #[.int .i32 a, .int .i8 3, .int .u64 v, .slice A3 n3 c3, .slice A4 n4 c4]] w (mem.Gives w w.heap.size 5 (X ++ T)) := by
  obtain ⟨i0, hi, hz0, hz1, hz2⟩ := info_parts ap.info8
  have H0 := bt.hide hz0
  have H1 := bt.hide hz1
  have H2 := bt.hide hz2
  have HI := bt.hide hi
  have HKF := bt.hide KF
  have HKT := bt.hide KT
  have HKV := bt.hide KV
  clear KF KT KV hz0 hz1 hz2 hi
  go_enter Try.func27, Try.ntmps27
  go_wp2_with fail
  have hrow := heap_alloc_new w (Obj.cells #[.int .i32 a, .int .i8 3, .int .u64 v, .slice A3 n3 c3, .slice A4 n4 c4] 41 (0, 0))
  have HS0 : Hid (mem.St w w.heap.size (Obj.cells #[.int .i32 a, .int .i8 3, .int .u64 v, .slice A3 n3 c3, .slice A4 n4 c4] 41 (0, 0)) (w.alloc (Obj.cells #[.int .i32 a, .int .i8 3, .int .u64 v, .slice A3 n3 c3, .slice A4 n4 c4] 41 (0, 0)))) := bt.hide ⟨(Below.refl _ _).alloc (Nat.le_refl _) _, hrow, Nat.le_refl _⟩
  generalize w.alloc (Obj.cells #[.int .i32 a, .int .i8 3, .int .u64 v, .slice A3 n3 c3, .slice A4 n4 c4] 41 (0, 0)) = w0 at *
  clear hrow
  have q0 := fun (W : World) (hW : mem.St w w.heap.size (Obj.cells #[.int .i32 a, .int .i8 3, .int .u64 v, .slice A3 n3 c3, .slice A4 n4 c4] 41 (0, 0)) W) => (five hW.2.1).1
  have q4 := fun (W : World) (hW : mem.St w w.heap.size (Obj.cells #[.int .i32 a, .int .i8 3, .int .u64 v, .slice A3 n3 c3, .slice A4 n4 c4] 41 (0, 0)) W) => (five hW.2.1).2.2.2.2
  have HSd := bt.hide (HS0.out.call (Below.refl _ _).drew)
  refine wp_region_held_drew (S := mem.St w w.heap.size (Obj.cells #[.int .i32 a, .int .i8 3, .int .u64 v, .slice A3 n3 c3, .slice A4 n4 c4] 41 (0, 0))) (by kernel_rfl) HSd.out (fun hHeld => ?_)
  generalize w0.drew = wd at *
  refine wpAnyH_take (i := 0) (v := ?_) rfl (by kernel_rfl) (by kernel_rfl) (by kernel_rfl) (fun _ _ _ h => h) (Or.inl ⟨by rfl, ?_⟩) (by assumption) ?_
  rotate_left
  · intro W hSW; (try dsimp only at hSW); go_simp; (try with_reducible rfl)
  simp only [Act.put, List.setIfInBounds_toArray, List.set_cons_zero, List.set_cons_succ, List.getElem_toArray, List.getElem_cons_zero]
  refine wpAnyH_take (i := 1) (v := ?_) rfl (by kernel_rfl) (by kernel_rfl) (by kernel_rfl) (fun _ _ _ h => h) (Or.inl ⟨by rfl, ?_⟩) (by assumption) ?_
  rotate_left
  · intro W hSW; (try dsimp only at hSW); go_simp; (try with_reducible rfl)
  simp only [Act.put, List.setIfInBounds_toArray, List.set_cons_zero, List.set_cons_succ, List.getElem_toArray, List.getElem_cons_zero, List.getElem_cons_succ]
  refine wpAnyH_take (i := 3) (v := ?_) rfl (by kernel_rfl) (by kernel_rfl) (by kernel_rfl) (fun _ _ _ h => h) (Or.inl ⟨by rfl, ?_⟩) (by assumption) ?_
  rotate_left
  · intro W hSW; (try dsimp only at hSW); go_simp; (try with_reducible rfl)
  simp only [Act.put, List.setIfInBounds_toArray, List.set_cons_zero, List.set_cons_succ, List.getElem_toArray, List.getElem_cons_zero, List.getElem_cons_succ]
  refine wpAnyH_take (i := 4) (v := ?_) rfl (by kernel_rfl) (by kernel_rfl) (by kernel_rfl) (fun _ _ _ h => h) (Or.inl ⟨by rfl, ?_⟩) (by assumption) ?_
  rotate_left
  · intro W hSW; (try dsimp only at hSW); go_simp; (try with_reducible rfl)
  simp only [Act.put, List.setIfInBounds_toArray, List.set_cons_zero, List.set_cons_succ, List.getElem_toArray, List.getElem_cons_zero, List.getElem_cons_succ]
  clear q0 q4
  refine wpAnyH_ready (rs := [2]) (by kernel_rfl) (by simp) ?_
  refine AllReadyH.cons rfl (fun K hK => ?_) AllReadyH.nil
  go_simp
  refine (HKF.out _ HSd.out.1).mono ?_
  rintro e w1 ⟨v1, rfl, hown, hb⟩
  have HS1 := bt.hide (HSd.out.call hb)
  have HO1 := bt.hide hown
  have hs1 := hb.size
  clear hown hb
  go_wp2_with fail
  refine hK.out _ _ HS1.out (fun _ => ?_)
  clear hK K
  refine wpAnyH_ready (rs := [5]) (by kernel_rfl) (by simp) ?_
  refine AllReadyH.cons rfl (fun K hK => ?_) AllReadyH.nil
  go_simp
  refine (HKT.out _).mono ?_
  rintro e w' ⟨rfl, rfl⟩
  go_wp2_with fail
  refine hK.out _ _ HS1.out (fun _ => ?_)
  clear hK K
  refine wpAnyH_ready (rs := [6]) (by kernel_rfl) (by simp) ?_
  refine AllReadyH.cons rfl (fun K hK => ?_) AllReadyH.nil
  go_simp
  refine (HKV.out _).mono ?_
  rintro e w2 ⟨v2, rfl, hown, hb⟩
  have HS2 := bt.hide (HS1.out.call hb)
  have HO2 := bt.hide (HO1.out.keepB hb (Nat.le_refl _))
  have hs2 := hb.size
  obtain ⟨A2, c2, e2, _, _, hr2, _⟩ := hown.form
  subst e2
  have HR2 := bt.hide hr2
  clear hown hb hr2
  go_wp2_with fail
  refine hK.out _ _ HS2.out (fun _ => ?_)
  clear hK K
  refine wpAnyH_ready (rs := [7]) (by kernel_rfl) (by simp) ?_
  refine AllReadyH.cons rfl (fun K hK => ?_) AllReadyH.nil
  refine (if_pos (by kernel_rfl)).mpr ?_
  refine mem.wp_append_bytes _ _ _ 25 rfl wd.heap.size 5 i0 Try.underlying25 HI.out H0.out H1.out H2.out _ X rfl HO2.out w2.heap.size A2 T.length c2 T rfl rfl HR2.out (by omega) (Nat.le_trans hs1 hs2) (fun v3 w3 hown hbel hgr => ?_)
  have hsd : w.heap.size ≤ wd.heap.size := HSd.out.1.size
  have HS3 := bt.hide (HS2.out.app (hbel.mono hsd) hgr (HO2.out.ne HS2.out.2.1 (by decide)))
  have HO3 := bt.hide (weaken hown hsd)
  clear hown hbel hgr
  simp only [Act.put, List.setIfInBounds_toArray, List.set_cons_zero, List.set_cons_succ, List.getElem_toArray, List.getElem_cons_zero, List.getElem_cons_succ]
  refine hK.out _ _ HS3.out (fun _ => ?_)
  clear hK K
  refine wpAnyH_take (i := 8) (v := ?_) rfl (by kernel_rfl) (by kernel_rfl) (by kernel_rfl) (fun _ _ _ h => h) (Or.inl ⟨by rfl, ?_⟩) (by assumption) ?_
  rotate_left
  · intro W hSW; (try dsimp only at hSW); go_simp; (try with_reducible rfl)
  simp only [Act.put, List.setIfInBounds_toArray, List.set_cons_zero, List.set_cons_succ, List.getElem_toArray, List.getElem_cons_zero, List.getElem_cons_succ]
  refine wpAnyH_done (by kernel_rfl) ?_ _
  go_wp2
  go_ret
  exact ⟨v3, rfl, HO3.out, HS3.out.1⟩
end Go.Proofs.Ytacdclkhhgjkbaa.fl
