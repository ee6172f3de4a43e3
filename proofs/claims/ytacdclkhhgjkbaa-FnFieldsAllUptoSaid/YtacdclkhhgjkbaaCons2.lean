/-
  Contracts of the functions that parse fixed numbers, bytes, texts and tags.
-/
import Derived.Test.YtacdclkhhgjkbaaCons
import Derived.Test.YtacdclkhhgjkbaaArg
import Derived.Deep.QuietTactic
import Derived.BigQuiet
namespace Go.Proofs.Ytacdclkhhgjkbaa.co
open Go.RowKit
set_option linter.unusedVariables false

theorem below_drewN {B : Nat} {a w : World} (h : Below B a w) (n : Nat) : Below B a (w.drewN n) := ⟨h.os, h.tape, h.output, h.size, h.block⟩

theorem wcv_yes (A : Option Addr) (n c : Nat) (bs : List Nat) (B : Nat) (w : World) (x : Nat × Nat) (hr : mem.Rd w B A bs) (hn : n = bs.length) (hm : n ≤ 9223372036854775807) (h : pl.rv 10 bs = some x) :
    Calls Try.prog 36 #[.slice A n c] w fun e w' => e = .returned (.tuple #[.int .u64 (x.1 : Nat), .int .i64 (x.2 : Nat)]) ∧ w = w' :=
  (wcv A n c bs B w hr hn hm).mono fun e w' ⟨v, k, he, hw, hx⟩ => by
    rw [h] at hx
    obtain ⟨rfl, rfl⟩ := hx
    exact ⟨he, hw⟩
/-- A negative length, and what stands beside it. -/
def NegV (w : World) (e : Ending) (w' : World) : Prop := ∃ k : Int, e = .returned (.tuple #[.int .u64 0, .int .i64 k]) ∧ w = w' ∧ k < 0 ∧ -10 ≤ k
theorem wcv_no (A : Option Addr) (n c : Nat) (bs : List Nat) (B : Nat) (w : World) (hr : mem.Rd w B A bs) (hn : n = bs.length) (hm : n ≤ 9223372036854775807) (h : pl.rv 10 bs = none) :
    Calls Try.prog 36 #[.slice A n c] w (NegV w) :=
  (wcv A n c bs B w hr hn hm).mono fun e w' ⟨v, k, he, hw, hx⟩ => by
    rw [h] at hx
    obtain ⟨rfl, h1, h2⟩ := hx
    exact ⟨k, he, hw, h1, h2⟩
theorem icv_yes (A : Option Addr) (n c : Nat) (bs : List Nat) (B : Nat) (w : World) (x : Nat × Nat) (hr : mem.Rd w B A bs) (hn : n = bs.length) (hm : n ≤ 9223372036854775807) (h : pl.rv 10 bs = some x) :
    Calls Try.prog 28 #[.slice A n c] w fun e w' => e = .returned (.tuple #[.int .u64 (x.1 : Nat), .int .i64 (x.2 : Nat)]) ∧ w = w' := by
  have K := bt.hide (wcv_yes A n c bs B w x hr hn hm h)
  clear hn h hr
  go_enter Try.func28, Try.ntmps28
  go_wp2_with fail
  refine (K.out).mono ?_
  rintro e w' ⟨rfl, rfl⟩
  go_wp2_with fail
  go_ret2
  exact ⟨rfl, rfl⟩
theorem icv_no (A : Option Addr) (n c : Nat) (bs : List Nat) (B : Nat) (w : World) (hr : mem.Rd w B A bs) (hn : n = bs.length) (hm : n ≤ 9223372036854775807) (h : pl.rv 10 bs = none) :
    Calls Try.prog 28 #[.slice A n c] w (NegV w) := by
  have K := bt.hide (wcv_no A n c bs B w hr hn hm h)
  clear hn h hr
  go_enter Try.func28, Try.ntmps28
  go_wp2_with fail
  refine (K.out).mono ?_
  rintro e w' ⟨k, rfl, rfl, h1, h2⟩
  go_wp2_with fail
  go_ret2
  exact ⟨k, rfl, rfl, h1, h2⟩

/-- A number of one byte is parsed, and none of no bytes. -/
theorem works (w : World) : Calls Try.prog 19 #[] w fun e w' => e = .returned (.bool true) ∧ Below w.heap.size w w' := by
  have K1 := bt.hide (icv_yes (some ⟨w.heap.size, 0, none⟩) 1 1 [7] (w.heap.size + 1) (w.alloc (.cells #[.int .u8 7] 5)) (7, 1) (mem.Rd.new w _ _ [7] (by simp) rfl) rfl (by omega) rfl)
  have K2 := bt.hide (fun (A : Option Addr) (W : World) => icv_no A 0 0 [] 0 W (mem.Rd.nil_ _ _ _) rfl (by omega) rfl)
  go_enter Try.func19, Try.ntmps19
  go_wp2_with fail
  refine (K1.out).mono ?_
  rintro e w' ⟨rfl, rfl⟩
  go_wp2_with fail
  refine (K2.out _ _).mono ?_
  rintro e w' ⟨k, rfl, rfl, h1, h2⟩
  go_wp2_with fail
  go_ret
  exact ⟨rfl, ((Below.refl _ _).alloc (Nat.le_refl _) _).alloc (by simp) _⟩
theorem worksG (w : World) : Calls Try.prog 19 #[] w fun e w' => e = .returned (.bool true) ∧ Grown w w' := by
  have K1 := bt.hide (icv_yes (some ⟨w.heap.size, 0, none⟩) 1 1 [7] (w.heap.size + 1) (w.alloc (.cells #[.int .u8 7] 5)) (7, 1) (mem.Rd.new w _ _ [7] (by simp) rfl) rfl (by omega) rfl)
  have K2 := bt.hide (fun (A : Option Addr) (W : World) => icv_no A 0 0 [] 0 W (mem.Rd.nil_ _ _ _) rfl (by omega) rfl)
  go_enter Try.func19, Try.ntmps19
  go_wp2_with fail
  refine (K1.out).mono ?_
  rintro e w' ⟨rfl, rfl⟩
  go_wp2_with fail
  refine (K2.out _ _).mono ?_
  rintro e w' ⟨k, rfl, rfl, h1, h2⟩
  go_wp2_with fail
  go_ret
  exact ⟨rfl, ((Grown.refl _).alloc _ _).alloc _ _⟩

theorem wcf32_no (A : Option Addr) (n c : Nat) (w : World) (hn : n < 4) :
    Calls Try.prog 41 #[.slice A n c] w fun e w' => e = .returned (.tuple #[.int .u32 0, .int .i64 (-1)]) ∧ w = w' := by
  have h : (n : Int) < 4 := by omega
  clear hn
  go_enter Try.func41, Try.ntmps41
  go_wp2
  go_ret2
  exact ⟨rfl, rfl⟩
theorem wcf32_yes (A : Option Addr) (n c : Nat) (bs : List Nat) (B : Nat) (w : World) (hr : mem.Rd w B A bs) (hn : n = bs.length) (h4 : 4 ≤ n) (hm : n ≤ 9223372036854775807) :
    Calls Try.prog 41 #[.slice A n c] w fun e w' => e = .returned (.tuple #[.int .u32 (pl.leN 4 bs : Nat), .int .i64 4]) ∧ Below w.heap.size w w' := by
  obtain ⟨b, off, rfl, _, hc⟩ := hr.at_ (by omega)
  have b0 := hr.byte 0
  have b1 := hr.byte 1
  have b2 := hr.byte 2
  have b3 := hr.byte 3
  have c0 : w.cell? ⟨b, off, none⟩ = some (.int .u8 (bs.getD 0 0 : Nat)) := hc 0 (by omega)
  have c1 : w.cell? ⟨b, off + 1, none⟩ = some (.int .u8 (bs.getD 1 0 : Nat)) := hc 1 (by omega)
  have c2 : w.cell? ⟨b, off + 2, none⟩ = some (.int .u8 (bs.getD 2 0 : Nat)) := hc 2 (by omega)
  have c3 : w.cell? ⟨b, off + 3, none⟩ = some (.int .u8 (bs.getD 3 0 : Nat)) := hc 3 (by omega)
  have hv : pl.leN 4 bs = bs.getD 0 0 + 256 * (bs.getD 1 0 + 256 * (bs.getD 2 0 + 256 * (bs.getD 3 0 + 256 * 0))) := by
    have e0 := pl.leN_at 3 bs 0
    have e1 := pl.leN_at 2 bs 1
    have e2 := pl.leN_at 1 bs 2
    have e3 := pl.leN_at 0 bs 3
    rw [List.drop_zero] at e0
    rw [e0, e1, e2, e3]
    rfl
  rw [hv]
  generalize bs.getD 0 0 = x0 at *
  generalize bs.getD 1 0 = x1 at *
  generalize bs.getD 2 0 = x2 at *
  generalize bs.getD 3 0 = x3 at *
  have i0 : (0 : Int) < (n : Int) := by omega
  have i1 : (1 : Int) < (n : Int) := by omega
  have i2 : (2 : Int) < (n : Int) := by omega
  have i3 : (3 : Int) < (n : Int) := by omega
  have i4 : ¬ (n : Int) < (4 : Int) := by omega
  clear hc hr hn h4 hv
  go_enter Try.func41, Try.ntmps41
  go_wp2_with fail
  go_quiet (fail)
  go_wp2
  go_ret2
  exact ⟨ret2 (by rw [bt.le32 _ _ _ _ (by omega) (by omega) (by omega) (by omega)]; omega) rfl, below_drewN (Below.refl _ _) _⟩
theorem wcf64_no (A : Option Addr) (n c : Nat) (w : World) (hn : n < 8) :
    Calls Try.prog 42 #[.slice A n c] w fun e w' => e = .returned (.tuple #[.int .u64 0, .int .i64 (-1)]) ∧ w = w' := by
  have h : (n : Int) < 8 := by omega
  clear hn
  go_enter Try.func42, Try.ntmps42
  go_wp2
  go_ret2
  exact ⟨rfl, rfl⟩
set_option maxRecDepth 100000 in
set_option maxHeartbeats 1000000 in
theorem wcf64_yes (A : Option Addr) (n c : Nat) (bs : List Nat) (B : Nat) (w : World) (hr : mem.Rd w B A bs) (hn : n = bs.length) (h4 : 8 ≤ n) (hm : n ≤ 9223372036854775807) :
    Calls Try.prog 42 #[.slice A n c] w fun e w' => e = .returned (.tuple #[.int .u64 (pl.leN 8 bs : Nat), .int .i64 8]) ∧ Below w.heap.size w w' := by
  obtain ⟨b, off, rfl, _, hc⟩ := hr.at_ (by omega)
  have b0 := hr.byte 0
  have b1 := hr.byte 1
  have b2 := hr.byte 2
  have b3 := hr.byte 3
  have b4 := hr.byte 4
  have b5 := hr.byte 5
  have b6 := hr.byte 6
  have b7 := hr.byte 7
  have c0 : w.cell? ⟨b, off, none⟩ = some (.int .u8 (bs.getD 0 0 : Nat)) := hc 0 (by omega)
  have c1 : w.cell? ⟨b, off + 1, none⟩ = some (.int .u8 (bs.getD 1 0 : Nat)) := hc 1 (by omega)
  have c2 : w.cell? ⟨b, off + 2, none⟩ = some (.int .u8 (bs.getD 2 0 : Nat)) := hc 2 (by omega)
  have c3 : w.cell? ⟨b, off + 3, none⟩ = some (.int .u8 (bs.getD 3 0 : Nat)) := hc 3 (by omega)
  have c4 : w.cell? ⟨b, off + 4, none⟩ = some (.int .u8 (bs.getD 4 0 : Nat)) := hc 4 (by omega)
  have c5 : w.cell? ⟨b, off + 5, none⟩ = some (.int .u8 (bs.getD 5 0 : Nat)) := hc 5 (by omega)
  have c6 : w.cell? ⟨b, off + 6, none⟩ = some (.int .u8 (bs.getD 6 0 : Nat)) := hc 6 (by omega)
  have c7 : w.cell? ⟨b, off + 7, none⟩ = some (.int .u8 (bs.getD 7 0 : Nat)) := hc 7 (by omega)
  have hv : pl.leN 8 bs = bs.getD 0 0 + 256 * (bs.getD 1 0 + 256 * (bs.getD 2 0 + 256 * (bs.getD 3 0 + 256 * (bs.getD 4 0 + 256 * (bs.getD 5 0 + 256 * (bs.getD 6 0 + 256 * (bs.getD 7 0 + 256 * 0))))))) := by
    have e0 := pl.leN_at 7 bs 0
    have e1 := pl.leN_at 6 bs 1
    have e2 := pl.leN_at 5 bs 2
    have e3 := pl.leN_at 4 bs 3
    have e4 := pl.leN_at 3 bs 4
    have e5 := pl.leN_at 2 bs 5
    have e6 := pl.leN_at 1 bs 6
    have e7 := pl.leN_at 0 bs 7
    rw [List.drop_zero] at e0
    rw [e0, e1, e2, e3, e4, e5, e6, e7]
    rfl
  rw [hv]
  generalize bs.getD 0 0 = x0 at *
  generalize bs.getD 1 0 = x1 at *
  generalize bs.getD 2 0 = x2 at *
  generalize bs.getD 3 0 = x3 at *
  generalize bs.getD 4 0 = x4 at *
  generalize bs.getD 5 0 = x5 at *
  generalize bs.getD 6 0 = x6 at *
  generalize bs.getD 7 0 = x7 at *
  have i0 : (0 : Int) < (n : Int) := by omega
  have i1 : (1 : Int) < (n : Int) := by omega
  have i2 : (2 : Int) < (n : Int) := by omega
  have i3 : (3 : Int) < (n : Int) := by omega
  have i4 : (4 : Int) < (n : Int) := by omega
  have i5 : (5 : Int) < (n : Int) := by omega
  have i6 : (6 : Int) < (n : Int) := by omega
  have i7 : (7 : Int) < (n : Int) := by omega
  have i8 : ¬ (n : Int) < (8 : Int) := by omega
  clear hc hr hn h4 hv
  go_enter Try.func42, Try.ntmps42
  go_wp2_with fail
  go_quiet (fail)
  go_wp2
  go_ret2
  exact ⟨ret2 (by rw [bt.le64 _ _ _ _ _ _ _ _ (by omega) (by omega) (by omega) (by omega) (by omega) (by omega) (by omega) (by omega)]; omega) rfl, below_drewN (Below.refl _ _) _⟩
end Go.Proofs.Ytacdclkhhgjkbaa.co
