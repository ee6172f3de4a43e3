/-
  The contract of the reference's Value on a field of bytes.
-/
import Derived.Test.YtacdclkhhgjkbaaFld
import Derived.Test.YtacdclkhhgjkbaaAppW
namespace Go.Proofs.Ytacdclkhhgjkbaa.fl
open Go.RowKit
set_option linter.unusedVariables false

theorem weaken {w : World} {b b' : Nat} {e : TypeId} {v : Value} {bs : List Nat} (h : mem.Own w b e v bs) (hb : b' ≤ b) : mem.Own w b' e v bs := by
  refine ⟨h.1, h.2.1, h.2.2.1, ?_⟩
  rcases h.2.2.2 with hn | ⟨g, cap, cur, hv, hbase, rest⟩
  · exact .inl hn
  · exact .inr ⟨g, cap, cur, hv, Nat.le_trans hb hbase, rest⟩

set_option maxRecDepth 100000 in
set_option maxHeartbeats 400000 in
theorem val2 (a v : Int) (A3 : Option Addr) (n3 c3 : Nat) (A4 : Option Addr) (n4 c4 : Nat) (data : List Nat) (B : Nat) (w : World) (hr : mem.Rd w B A3 data) (hB : B ≤ w.heap.size) (hn : data.length = n3) (hm : n3 ≤ 2147483647) :
    Calls Try.prog 27 #[.agg #[.int .i32 a, .int .i8 2, .int .u64 v, .slice A3 n3 c3, .slice A4 n4 c4]] w (mem.Gives w w.heap.size 5 (pl.enc n3 ++ data)) := by
  obtain ⟨i0, hi, hz0, hz1, hz2⟩ := info_parts ap.info8
  have H0 := bt.hide hz0
  have H1 := bt.hide hz1
  have H2 := bt.hide hz2
  have HI := bt.hide hi
  have K := fun (W : World) => sw.svar W.heap.size (n3 : Int) W (by omega) (by omega) (Nat.le_refl _)
  rw [Int.toNat_natCast] at K
  have hel := pl.enc_len_le n3
  have HK := bt.hide K
  have hwr : IntKind.u64.wrap (n3 : Int) = (n3 : Int) := bt.wrap_u64_id _ (by omega) (by omega)
  have HD := bt.hide (hr.more hB)
  have HN := bt.hide hn
  have hni : (n3 : Int) ≤ 2147483647 := by omega
  clear K hz0 hz1 hz2 hi hr hn
  generalize pl.enc n3 = T at *
  go_enter Try.func27, Try.ntmps27
  go_wp2_with fail
  have hrow := heap_alloc_new w (Obj.cells #[.int .i32 a, .int .i8 2, .int .u64 v, .slice A3 n3 c3, .slice A4 n4 c4] 41 (0, 0))
  have HS0 : Hid (mem.St w w.heap.size (Obj.cells #[.int .i32 a, .int .i8 2, .int .u64 v, .slice A3 n3 c3, .slice A4 n4 c4] 41 (0, 0)) (w.alloc (Obj.cells #[.int .i32 a, .int .i8 2, .int .u64 v, .slice A3 n3 c3, .slice A4 n4 c4] 41 (0, 0)))) := bt.hide ⟨(Below.refl _ _).alloc (Nat.le_refl _) _, hrow, Nat.le_refl _⟩
  generalize w.alloc (Obj.cells #[.int .i32 a, .int .i8 2, .int .u64 v, .slice A3 n3 c3, .slice A4 n4 c4] 41 (0, 0)) = w0 at *
  have HP := bt.hide (show ∃ p, p = w.heap.size from ⟨_, rfl⟩)
  clear hrow
  have q0 := fun (W : World) (hW : mem.St w w.heap.size (Obj.cells #[.int .i32 a, .int .i8 2, .int .u64 v, .slice A3 n3 c3, .slice A4 n4 c4] 41 (0, 0)) W) => (five hW.2.1).1
  have q1 := fun (W : World) (hW : mem.St w w.heap.size (Obj.cells #[.int .i32 a, .int .i8 2, .int .u64 v, .slice A3 n3 c3, .slice A4 n4 c4] 41 (0, 0)) W) => (five hW.2.1).2.1
  have q2 := fun (W : World) (hW : mem.St w w.heap.size (Obj.cells #[.int .i32 a, .int .i8 2, .int .u64 v, .slice A3 n3 c3, .slice A4 n4 c4] 41 (0, 0)) W) => (five hW.2.1).2.2.1
  have q3 := fun (W : World) (hW : mem.St w w.heap.size (Obj.cells #[.int .i32 a, .int .i8 2, .int .u64 v, .slice A3 n3 c3, .slice A4 n4 c4] 41 (0, 0)) W) => (five hW.2.1).2.2.2.1
  have q4 := fun (W : World) (hW : mem.St w w.heap.size (Obj.cells #[.int .i32 a, .int .i8 2, .int .u64 v, .slice A3 n3 c3, .slice A4 n4 c4] 41 (0, 0)) W) => (five hW.2.1).2.2.2.2
  have HSd := bt.hide (HS0.out.call (Below.refl _ _).drew)
  refine wp_region_held_drew (S := mem.St w w.heap.size (Obj.cells #[.int .i32 a, .int .i8 2, .int .u64 v, .slice A3 n3 c3, .slice A4 n4 c4] 41 (0, 0))) (by kernel_rfl) HSd.out (fun hHeld => ?_)
  generalize w0.drew = wd at *
  refine wpAnyH_take (i := 0) (v := ?_) rfl (by kernel_rfl) (by kernel_rfl) (by kernel_rfl) (fun _ _ _ h => h) (Or.inl ⟨by rfl, ?_⟩) (by assumption) ?_
  rotate_left
  · intro W hSW; (try dsimp only at hSW); go_simp; (try with_reducible rfl)
  simp only [Act.put, List.setIfInBounds_toArray, List.set_cons_zero, List.set_cons_succ, List.getElem_toArray, List.getElem_cons_zero]
  refine wpAnyH_take (i := 1) (v := ?_) rfl (by kernel_rfl) (by kernel_rfl) (by kernel_rfl) (fun _ _ _ h => h) (Or.inl ⟨by rfl, ?_⟩) (by assumption) ?_
  rotate_left
  · intro W hSW; (try dsimp only at hSW); go_simp; (try with_reducible rfl)
  simp only [Act.put, List.setIfInBounds_toArray, List.set_cons_zero, List.set_cons_succ, List.getElem_toArray, List.getElem_cons_zero, List.getElem_cons_succ]
  refine wpAnyH_take (i := 2) (v := ?_) rfl (by kernel_rfl) (by kernel_rfl) (by kernel_rfl) (fun _ _ _ h => h) (Or.inl ⟨by rfl, ?_⟩) (by assumption) ?_
  rotate_left
  · intro W hSW; (try dsimp only at hSW); go_simp; (try with_reducible rfl)
  simp only [Act.put, List.setIfInBounds_toArray, List.set_cons_zero, List.set_cons_succ, List.getElem_toArray, List.getElem_cons_zero, List.getElem_cons_succ]
  refine wpAnyH_take (i := 3) (v := ?_) rfl (by kernel_rfl) (by kernel_rfl) (by kernel_rfl) (fun _ _ _ h => h) (Or.inl ⟨by rfl, ?_⟩) (by assumption) ?_
  rotate_left
  · intro W hSW; (try dsimp only at hSW); go_simp; (try with_reducible rfl)
  simp only [Act.put, List.setIfInBounds_toArray, List.set_cons_zero, List.set_cons_succ, List.getElem_toArray, List.getElem_cons_zero, List.getElem_cons_succ]
  refine wpAnyH_take (i := 5) (v := ?_) rfl (by kernel_rfl) (by kernel_rfl) (by kernel_rfl) (fun _ _ _ h => h) (Or.inl ⟨by rfl, ?_⟩) (by assumption) ?_
  rotate_left
  · intro W hSW; (try dsimp only at hSW); go_simp; (try with_reducible rfl)
  simp only [Act.put, List.setIfInBounds_toArray, List.set_cons_zero, List.set_cons_succ, List.getElem_toArray, List.getElem_cons_zero, List.getElem_cons_succ]
  refine wpAnyH_take (i := 6) (v := ?_) rfl (by kernel_rfl) (by kernel_rfl) (by kernel_rfl) (fun _ _ _ h => h) (Or.inl ⟨by rfl, ?_⟩) (by assumption) ?_
  rotate_left
  · intro W hSW; (try dsimp only at hSW); go_simp; (try with_reducible rfl)
  simp only [Act.put, List.setIfInBounds_toArray, List.set_cons_zero, List.set_cons_succ, List.getElem_toArray, List.getElem_cons_zero, List.getElem_cons_succ]
  clear q0 q1 q2 q3 q4
  refine wpAnyH_ready (rs := [4]) (by kernel_rfl) (by simp) ?_
  refine AllReadyH.cons rfl (fun K hK => ?_) AllReadyH.nil
  go_simp
  refine (HK.out _).mono ?_
  rintro e w1 ⟨v1, rfl, hown, hb⟩
  have HS1 := bt.hide (HSd.out.call hb)
  have HO1 := bt.hide hown
  have hs1 := hb.size
  clear hown hb
  go_wp2_with fail
  refine hK.out _ _ HS1.out (fun _ => ?_)
  clear hK K
  refine wpAnyH_ready (rs := [7]) (by kernel_rfl) (by simp) ?_
  refine AllReadyH.cons rfl (fun K hK => ?_) AllReadyH.nil
  refine (if_pos (by kernel_rfl)).mpr ?_
  refine mem.wp_append_bytes _ _ _ 25 rfl wd.heap.size 5 i0 Try.underlying25 HI.out H0.out H1.out H2.out _ T rfl HO1.out w.heap.size A3 n3 c3 data rfl HN.out.symm (HD.out.below HS1.out.1) (by omega) hs1 (fun v2 w2 hown hbel hgr => ?_)
  have hsd : w.heap.size ≤ wd.heap.size := HSd.out.1.size
  have HS2 := bt.hide (HS1.out.app (hbel.mono hsd) hgr (HO1.out.ne HS1.out.2.1 (by decide)))
  have HO2 := bt.hide (weaken hown hsd)
  clear hown hbel hgr
  simp only [Act.put, List.setIfInBounds_toArray, List.set_cons_zero, List.set_cons_succ, List.getElem_toArray, List.getElem_cons_zero, List.getElem_cons_succ]
  refine hK.out _ _ HS2.out (fun _ => ?_)
  clear hK K
  refine wpAnyH_take (i := 8) (v := ?_) rfl (by kernel_rfl) (by kernel_rfl) (by kernel_rfl) (fun _ _ _ h => h) (Or.inl ⟨by rfl, ?_⟩) (by assumption) ?_
  rotate_left
  · intro W hSW; (try dsimp only at hSW); go_simp; (try with_reducible rfl)
  simp only [Act.put, List.setIfInBounds_toArray, List.set_cons_zero, List.set_cons_succ, List.getElem_toArray, List.getElem_cons_zero, List.getElem_cons_succ]
  refine wpAnyH_done (by kernel_rfl) ?_ _
  go_wp2
  go_ret
  exact ⟨v2, rfl, HO2.out, HS2.out.1⟩
end Go.Proofs.Ytacdclkhhgjkbaa.fl
