/-
  The contracts of the functions that take a field by value: the size's guard, the reference's FieldsOk and Fields on one field that holds no fields.
-/
import Derived.Test.YtacdclkhhgjkbaaMem
import Derived.Test.YtacdclkhhgjkbaaPure
import Derived.Test.YtacdclkhhgjkbaaSpecW
import Derived.OpenShut
namespace Go.Proofs.Ytacdclkhhgjkbaa.fl
open Go.RowKit
set_option linter.unusedVariables false

theorem five {w : World} {g : Nat} {t : TypeId} {x0 x1 x2 x3 x4 : Value} (h : w.heap[g]? = some (.cells #[x0, x1, x2, x3, x4] t (0, 0))) :
    w.cell? ⟨g, 0, none⟩ = some x0 ∧ w.cell? ⟨g, 1, none⟩ = some x1 ∧ w.cell? ⟨g, 2, none⟩ = some x2 ∧ w.cell? ⟨g, 3, none⟩ = some x3 ∧ w.cell? ⟨g, 4, none⟩ = some x4 :=
  ⟨cell_of_row _ g 0 _ t (0, 0) h, cell_of_row _ g 1 _ t (0, 0) h, cell_of_row _ g 2 _ t (0, 0) h, cell_of_row _ g 3 _ t (0, 0) h, cell_of_row _ g 4 _ t (0, 0) h⟩

theorem zz (k : Int) (a v : Int) (A3 : Option Addr) (n3 c3 : Nat) (A4 : Option Addr) (n4 c4 : Nat) (w : World) (h3 : n3 ≤ 2147483647) (h4 : n4 ≤ 2147483647) :
    Calls Try.prog 23 #[.agg #[.int .i32 a, .int .i8 k, .int .u64 v, .slice A3 n3 c3, .slice A4 n4 c4]] w fun e w' => e = .returned (.bool true) ∧ Below w.heap.size w w' := by
  have i3 : ¬ (2147483647 : Int) < (n3 : Int) := by omega
  have i4 : ¬ (2147483647 : Int) < (n4 : Int) := by omega
  go_enter Try.func23, Try.ntmps23
  go_wp2
  go_ret
  exact ⟨rfl, (Below.refl _ _).alloc (Nat.le_refl _) _⟩
theorem zz_data (k : Int) (a v : Int) (A3 : Option Addr) (n3 c3 : Nat) (A4 : Option Addr) (n4 c4 : Nat) (w : World) (h3 : 2147483647 < n3) :
    Calls Try.prog 23 #[.agg #[.int .i32 a, .int .i8 k, .int .u64 v, .slice A3 n3 c3, .slice A4 n4 c4]] w fun e w' => e = .returned (.bool false) ∧ Below w.heap.size w w' := by
  have i3 : (2147483647 : Int) < (n3 : Int) := by omega
  go_enter Try.func23, Try.ntmps23
  go_wp2
  go_ret
  exact ⟨rfl, (Below.refl _ _).alloc (Nat.le_refl _) _⟩
theorem zz_kids (k : Int) (a v : Int) (A3 : Option Addr) (n3 c3 : Nat) (A4 : Option Addr) (n4 c4 : Nat) (w : World) (h3 : n3 ≤ 2147483647) (h4 : 2147483647 < n4) :
    Calls Try.prog 23 #[.agg #[.int .i32 a, .int .i8 k, .int .u64 v, .slice A3 n3 c3, .slice A4 n4 c4]] w fun e w' => e = .returned (.bool false) ∧ Below w.heap.size w w' := by
  have i3 : ¬ (2147483647 : Int) < (n3 : Int) := by omega
  have i4 : (2147483647 : Int) < (n4 : Int) := by omega
  go_enter Try.func23, Try.ntmps23
  go_wp2
  go_ret
  exact ⟨rfl, (Below.refl _ _).alloc (Nat.le_refl _) _⟩
theorem fok0 (a v : Int) (A3 : Option Addr) (n3 c3 : Nat) (A4 : Option Addr) (n4 c4 : Nat) (g : Nat) (w : World) (t : TypeId) (hg : w.heap[g]? = some (.cells #[.int .i32 a, .int .i8 0, .int .u64 v, .slice A3 n3 c3, .slice A4 n4 c4] t (0, 0))) (h : 1 ≤ a ∧ a ≤ 536870911) :
    Calls Try.prog 15 #[.slice (some ⟨g, 0, none⟩) 1 1, .int .i64 50] w fun e w' => e = .returned (.bool true) ∧ Below w.heap.size w w' := by
  have K := bt.hide (fun (W : World) => pu.numOk_yes a W h.1 h.2)
  have HG := bt.hide hg
  have hgw : g < w.heap.size := (Array.getElem?_eq_some_iff.1 hg).1
  clear hg h
  go_enter Try.func15, Try.ntmps15
  go_wp2_with fail
  go_loopw [9] (fun i wr => (i = .int .i64 0 ∨ i = .int .i64 1) ∧ Hid (Below w.heap.size w wr)) (fun i _ => (1 - intOf i).toNat)
  case atStart => exact ⟨.inl rfl, bt.hide (Below.refl _ _)⟩
  case round =>
    obtain ⟨rfl | rfl, hbel⟩ := hrel
    · obtain ⟨y0, y1, y2, y3, y4⟩ := five ((hbel.out.block g hgw).trans HG.out)
      have hb1 := hbel.out.size
      go_wp2_with fail
      refine (K.out _).mono ?_
      rintro e w1 ⟨rfl, rfl⟩
      clear y0 y1 y2 y3 y4
      go_wp2_with fail
      go_roundw
      case rel => exact ⟨.inr rfl, bt.hide (hbel.out.alloc hb1 _)⟩
      case measure => simp [intOf]
    · go_wp2_with fail
      go_ret
      exact ⟨rfl, hbel.out⟩
theorem fok0_no (a v : Int) (A3 : Option Addr) (n3 c3 : Nat) (A4 : Option Addr) (n4 c4 : Nat) (g : Nat) (w : World) (t : TypeId) (hg : w.heap[g]? = some (.cells #[.int .i32 a, .int .i8 0, .int .u64 v, .slice A3 n3 c3, .slice A4 n4 c4] t (0, 0))) (h : ¬ (1 ≤ a ∧ a ≤ 536870911)) :
    Calls Try.prog 15 #[.slice (some ⟨g, 0, none⟩) 1 1, .int .i64 50] w fun e w' => e = .returned (.bool false) ∧ Below w.heap.size w w' := by
  have K := bt.hide (fun (W : World) => pu.numOk_no a W (by omega))
  have HG := bt.hide hg
  have hgw : g < w.heap.size := (Array.getElem?_eq_some_iff.1 hg).1
  clear hg h
  go_enter Try.func15, Try.ntmps15
  go_wp2_with fail
  go_loopw [9] (fun i wr => i = .int .i64 0 ∧ Hid (Below w.heap.size w wr)) (fun i _ => (1 - intOf i).toNat)
  case atStart => exact ⟨rfl, bt.hide (Below.refl _ _)⟩
  case round =>
    obtain ⟨rfl, hbel⟩ := hrel
    · obtain ⟨y0, y1, y2, y3, y4⟩ := five ((hbel.out.block g hgw).trans HG.out)
      have hb1 := hbel.out.size
      go_wp2_with fail
      refine (K.out _).mono ?_
      rintro e w1 ⟨rfl, rfl⟩
      clear y0 y1 y2 y3 y4
      go_wp2_with fail
      go_ret
      exact ⟨rfl, hbel.out.alloc hb1 _⟩
theorem fok5 (a v : Int) (A3 : Option Addr) (n3 c3 : Nat) (A4 : Option Addr) (n4 c4 : Nat) (g : Nat) (w : World) (t : TypeId) (hg : w.heap[g]? = some (.cells #[.int .i32 a, .int .i8 5, .int .u64 v, .slice A3 n3 c3, .slice A4 n4 c4] t (0, 0))) (h : 1 ≤ a ∧ a ≤ 536870911) :
    Calls Try.prog 15 #[.slice (some ⟨g, 0, none⟩) 1 1, .int .i64 50] w fun e w' => e = .returned (.bool true) ∧ Below w.heap.size w w' := by
  have K := bt.hide (fun (W : World) => pu.numOk_yes a W h.1 h.2)
  have HG := bt.hide hg
  have hgw : g < w.heap.size := (Array.getElem?_eq_some_iff.1 hg).1
  clear hg h
  go_enter Try.func15, Try.ntmps15
  go_wp2_with fail
  go_loopw [9] (fun i wr => (i = .int .i64 0 ∨ i = .int .i64 1) ∧ Hid (Below w.heap.size w wr)) (fun i _ => (1 - intOf i).toNat)
  case atStart => exact ⟨.inl rfl, bt.hide (Below.refl _ _)⟩
  case round =>
    obtain ⟨rfl | rfl, hbel⟩ := hrel
    · obtain ⟨y0, y1, y2, y3, y4⟩ := five ((hbel.out.block g hgw).trans HG.out)
      have hb1 := hbel.out.size
      go_wp2_with fail
      refine (K.out _).mono ?_
      rintro e w1 ⟨rfl, rfl⟩
      clear y0 y1 y2 y3 y4
      go_wp2_with fail
      go_roundw
      case rel => exact ⟨.inr rfl, bt.hide (hbel.out.alloc hb1 _)⟩
      case measure => simp [intOf]
    · go_wp2_with fail
      go_ret
      exact ⟨rfl, hbel.out⟩
theorem fok5_no (a v : Int) (A3 : Option Addr) (n3 c3 : Nat) (A4 : Option Addr) (n4 c4 : Nat) (g : Nat) (w : World) (t : TypeId) (hg : w.heap[g]? = some (.cells #[.int .i32 a, .int .i8 5, .int .u64 v, .slice A3 n3 c3, .slice A4 n4 c4] t (0, 0))) (h : ¬ (1 ≤ a ∧ a ≤ 536870911)) :
    Calls Try.prog 15 #[.slice (some ⟨g, 0, none⟩) 1 1, .int .i64 50] w fun e w' => e = .returned (.bool false) ∧ Below w.heap.size w w' := by
  have K := bt.hide (fun (W : World) => pu.numOk_no a W (by omega))
  have HG := bt.hide hg
  have hgw : g < w.heap.size := (Array.getElem?_eq_some_iff.1 hg).1
  clear hg h
  go_enter Try.func15, Try.ntmps15
  go_wp2_with fail
  go_loopw [9] (fun i wr => i = .int .i64 0 ∧ Hid (Below w.heap.size w wr)) (fun i _ => (1 - intOf i).toNat)
  case atStart => exact ⟨rfl, bt.hide (Below.refl _ _)⟩
  case round =>
    obtain ⟨rfl, hbel⟩ := hrel
    · obtain ⟨y0, y1, y2, y3, y4⟩ := five ((hbel.out.block g hgw).trans HG.out)
      have hb1 := hbel.out.size
      go_wp2_with fail
      refine (K.out _).mono ?_
      rintro e w1 ⟨rfl, rfl⟩
      clear y0 y1 y2 y3 y4
      go_wp2_with fail
      go_ret
      exact ⟨rfl, hbel.out.alloc hb1 _⟩
theorem fok1 (a v : Int) (A3 : Option Addr) (n3 c3 : Nat) (A4 : Option Addr) (n4 c4 : Nat) (g : Nat) (w : World) (t : TypeId) (hg : w.heap[g]? = some (.cells #[.int .i32 a, .int .i8 1, .int .u64 v, .slice A3 n3 c3, .slice A4 n4 c4] t (0, 0))) (h : 1 ≤ a ∧ a ≤ 536870911) :
    Calls Try.prog 15 #[.slice (some ⟨g, 0, none⟩) 1 1, .int .i64 50] w fun e w' => e = .returned (.bool true) ∧ Below w.heap.size w w' := by
  have K := bt.hide (fun (W : World) => pu.numOk_yes a W h.1 h.2)
  have HG := bt.hide hg
  have hgw : g < w.heap.size := (Array.getElem?_eq_some_iff.1 hg).1
  clear hg h
  go_enter Try.func15, Try.ntmps15
  go_wp2_with fail
  go_loopw [9] (fun i wr => (i = .int .i64 0 ∨ i = .int .i64 1) ∧ Hid (Below w.heap.size w wr)) (fun i _ => (1 - intOf i).toNat)
  case atStart => exact ⟨.inl rfl, bt.hide (Below.refl _ _)⟩
  case round =>
    obtain ⟨rfl | rfl, hbel⟩ := hrel
    · obtain ⟨y0, y1, y2, y3, y4⟩ := five ((hbel.out.block g hgw).trans HG.out)
      have hb1 := hbel.out.size
      go_wp2_with fail
      refine (K.out _).mono ?_
      rintro e w1 ⟨rfl, rfl⟩
      clear y0 y1 y2 y3 y4
      go_wp2_with fail
      go_roundw
      case rel => exact ⟨.inr rfl, bt.hide (hbel.out.alloc hb1 _)⟩
      case measure => simp [intOf]
    · go_wp2_with fail
      go_ret
      exact ⟨rfl, hbel.out⟩
theorem fok1_no (a v : Int) (A3 : Option Addr) (n3 c3 : Nat) (A4 : Option Addr) (n4 c4 : Nat) (g : Nat) (w : World) (t : TypeId) (hg : w.heap[g]? = some (.cells #[.int .i32 a, .int .i8 1, .int .u64 v, .slice A3 n3 c3, .slice A4 n4 c4] t (0, 0))) (h : ¬ (1 ≤ a ∧ a ≤ 536870911)) :
    Calls Try.prog 15 #[.slice (some ⟨g, 0, none⟩) 1 1, .int .i64 50] w fun e w' => e = .returned (.bool false) ∧ Below w.heap.size w w' := by
  have K := bt.hide (fun (W : World) => pu.numOk_no a W (by omega))
  have HG := bt.hide hg
  have hgw : g < w.heap.size := (Array.getElem?_eq_some_iff.1 hg).1
  clear hg h
  go_enter Try.func15, Try.ntmps15
  go_wp2_with fail
  go_loopw [9] (fun i wr => i = .int .i64 0 ∧ Hid (Below w.heap.size w wr)) (fun i _ => (1 - intOf i).toNat)
  case atStart => exact ⟨rfl, bt.hide (Below.refl _ _)⟩
  case round =>
    obtain ⟨rfl, hbel⟩ := hrel
    · obtain ⟨y0, y1, y2, y3, y4⟩ := five ((hbel.out.block g hgw).trans HG.out)
      have hb1 := hbel.out.size
      go_wp2_with fail
      refine (K.out _).mono ?_
      rintro e w1 ⟨rfl, rfl⟩
      clear y0 y1 y2 y3 y4
      go_wp2_with fail
      go_ret
      exact ⟨rfl, hbel.out.alloc hb1 _⟩
theorem fok2 (a v : Int) (A3 : Option Addr) (n3 c3 : Nat) (A4 : Option Addr) (n4 c4 : Nat) (g : Nat) (w : World) (t : TypeId) (hg : w.heap[g]? = some (.cells #[.int .i32 a, .int .i8 2, .int .u64 v, .slice A3 n3 c3, .slice A4 n4 c4] t (0, 0))) (h : 1 ≤ a ∧ a ≤ 536870911) :
    Calls Try.prog 15 #[.slice (some ⟨g, 0, none⟩) 1 1, .int .i64 50] w fun e w' => e = .returned (.bool true) ∧ Below w.heap.size w w' := by
  have K := bt.hide (fun (W : World) => pu.numOk_yes a W h.1 h.2)
  have HG := bt.hide hg
  have hgw : g < w.heap.size := (Array.getElem?_eq_some_iff.1 hg).1
  clear hg h
  go_enter Try.func15, Try.ntmps15
  go_wp2_with fail
  go_loopw [9] (fun i wr => (i = .int .i64 0 ∨ i = .int .i64 1) ∧ Hid (Below w.heap.size w wr)) (fun i _ => (1 - intOf i).toNat)
  case atStart => exact ⟨.inl rfl, bt.hide (Below.refl _ _)⟩
  case round =>
    obtain ⟨rfl | rfl, hbel⟩ := hrel
    · obtain ⟨y0, y1, y2, y3, y4⟩ := five ((hbel.out.block g hgw).trans HG.out)
      have hb1 := hbel.out.size
      go_wp2_with fail
      refine (K.out _).mono ?_
      rintro e w1 ⟨rfl, rfl⟩
      clear y0 y1 y2 y3 y4
      go_wp2_with fail
      go_roundw
      case rel => exact ⟨.inr rfl, bt.hide (hbel.out.alloc hb1 _)⟩
      case measure => simp [intOf]
    · go_wp2_with fail
      go_ret
      exact ⟨rfl, hbel.out⟩
theorem fok2_no (a v : Int) (A3 : Option Addr) (n3 c3 : Nat) (A4 : Option Addr) (n4 c4 : Nat) (g : Nat) (w : World) (t : TypeId) (hg : w.heap[g]? = some (.cells #[.int .i32 a, .int .i8 2, .int .u64 v, .slice A3 n3 c3, .slice A4 n4 c4] t (0, 0))) (h : ¬ (1 ≤ a ∧ a ≤ 536870911)) :
    Calls Try.prog 15 #[.slice (some ⟨g, 0, none⟩) 1 1, .int .i64 50] w fun e w' => e = .returned (.bool false) ∧ Below w.heap.size w w' := by
  have K := bt.hide (fun (W : World) => pu.numOk_no a W (by omega))
  have HG := bt.hide hg
  have hgw : g < w.heap.size := (Array.getElem?_eq_some_iff.1 hg).1
  clear hg h
  go_enter Try.func15, Try.ntmps15
  go_wp2_with fail
  go_loopw [9] (fun i wr => i = .int .i64 0 ∧ Hid (Below w.heap.size w wr)) (fun i _ => (1 - intOf i).toNat)
  case atStart => exact ⟨rfl, bt.hide (Below.refl _ _)⟩
  case round =>
    obtain ⟨rfl, hbel⟩ := hrel
    · obtain ⟨y0, y1, y2, y3, y4⟩ := five ((hbel.out.block g hgw).trans HG.out)
      have hb1 := hbel.out.size
      go_wp2_with fail
      refine (K.out _).mono ?_
      rintro e w1 ⟨rfl, rfl⟩
      clear y0 y1 y2 y3 y4
      go_wp2_with fail
      go_ret
      exact ⟨rfl, hbel.out.alloc hb1 _⟩
theorem val0 (a v : Int) (A3 : Option Addr) (n3 c3 : Nat) (A4 : Option Addr) (n4 c4 : Nat) (w : World) (h0 : 0 ≤ v) (h1 : v < 18446744073709551616) :
    Calls Try.prog 27 #[.agg #[.int .i32 a, .int .i8 0, .int .u64 v, .slice A3 n3 c3, .slice A4 n4 c4]] w (mem.Gives w w.heap.size 5 (pl.enc v.toNat)) := by
  have K := bt.hide (fun (W : World) (hW : w.heap.size ≤ W.heap.size) => sw.svar w.heap.size v W h0 h1 hW)
  generalize pl.enc v.toNat = X at *
  clear h0 h1
  go_enter Try.func27, Try.ntmps27
  go_wp2_with fail
  refine (K.out _ (by simp)).mono ?_
  rintro e w1 ⟨v1, rfl, hown1, hbel1⟩
  have HO := bt.hide hown1
  have HB := bt.hide (((Below.refl w.heap.size w).alloc (Nat.le_refl _) _).trans hbel1)
  clear hown1 hbel1
  go_wp2_with fail
  go_ret
  exact ⟨v1, rfl, HO.out, HB.out⟩
theorem val5 (a v : Int) (A3 : Option Addr) (n3 c3 : Nat) (A4 : Option Addr) (n4 c4 : Nat) (w : World) (h0 : 0 ≤ v) (h1 : v < 18446744073709551616) :
    Calls Try.prog 27 #[.agg #[.int .i32 a, .int .i8 5, .int .u64 v, .slice A3 n3 c3, .slice A4 n4 c4]] w (mem.Gives w w.heap.size 5 (pl.fix v.toNat 4)) := by
  have K := bt.hide (fun (W : World) (hW : w.heap.size ≤ W.heap.size) => sw.sfix w.heap.size v 4 W h0 h1 (by decide) hW)
  generalize pl.fix v.toNat 4 = X at *
  clear h0 h1
  go_enter Try.func27, Try.ntmps27
  go_wp2_with fail
  refine (K.out _ (by simp)).mono ?_
  rintro e w1 ⟨v1, rfl, hown1, hbel1⟩
  have HO := bt.hide hown1
  have HB := bt.hide (((Below.refl w.heap.size w).alloc (Nat.le_refl _) _).trans hbel1)
  clear hown1 hbel1
  go_wp2_with fail
  go_ret
  exact ⟨v1, rfl, HO.out, HB.out⟩
theorem val1 (a v : Int) (A3 : Option Addr) (n3 c3 : Nat) (A4 : Option Addr) (n4 c4 : Nat) (w : World) (h0 : 0 ≤ v) (h1 : v < 18446744073709551616) :
    Calls Try.prog 27 #[.agg #[.int .i32 a, .int .i8 1, .int .u64 v, .slice A3 n3 c3, .slice A4 n4 c4]] w (mem.Gives w w.heap.size 5 (pl.fix v.toNat 8)) := by
  have K := bt.hide (fun (W : World) (hW : w.heap.size ≤ W.heap.size) => sw.sfix w.heap.size v 8 W h0 h1 (by decide) hW)
  generalize pl.fix v.toNat 8 = X at *
  clear h0 h1
  go_enter Try.func27, Try.ntmps27
  go_wp2_with fail
  refine (K.out _ (by simp)).mono ?_
  rintro e w1 ⟨v1, rfl, hown1, hbel1⟩
  have HO := bt.hide hown1
  have HB := bt.hide (((Below.refl w.heap.size w).alloc (Nat.le_refl _) _).trans hbel1)
  clear hown1 hbel1
  go_wp2_with fail
  go_ret
  exact ⟨v1, rfl, HO.out, HB.out⟩
end Go.Proofs.Ytacdclkhhgjkbaa.fl
