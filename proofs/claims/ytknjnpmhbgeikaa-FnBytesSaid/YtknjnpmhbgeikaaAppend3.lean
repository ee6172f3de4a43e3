/-
  Contracts of the functions that append bytes, texts and groups.
-/
import Derived.Test.YtknjnpmhbgeikaaAppend2
import Derived.Lib.AppendStr
import Derived.Lib.ConvBytes
namespace Go.Proofs.Ytknjnpmhbgeikaa.ap
open Go.RowKit
set_option linter.unusedVariables false

theorem wab (base : Nat) (v : Value) (bs : List Nat) (A : Option Addr) (n c : Nat) (ds : List Nat) (w : World) (hown : mem.Own w base 5 v bs) (hb : base ≤ w.heap.size) (hr : mem.Rd w base A ds) (hn : n = ds.length) (hnm : n ≤ 2147483647) (hl : bs.length + n + 10 ≤ 140737488355328) :
    Calls Try.prog 36 #[v, .slice A n c] w (mem.Gives w base 5 (bs ++ (pl.enc n ++ ds))) := by
  obtain ⟨i0, hi, hz0, hz1, hz2⟩ := info_parts info8
  have K := bt.hide (wavar base v bs (n : Int) w (by omega) (by omega) hown hb (by omega))
  rw [Int.toNat_natCast] at K
  have hel := pl.enc_len_le n
  have HN := bt.hide hn
  have HR := bt.hide hr
  have H0 := bt.hide hz0
  have H1 := bt.hide hz1
  have H2 := bt.hide hz2
  have HI := bt.hide hi
  clear hown hr hz0 hz1 hz2 hi hn
  go_enter Try.func36, Try.ntmps36
  go_wp2_with fail
  refine (K.out).mono ?_
  rintro e w1 ⟨v1, rfl, hown1, hbel1⟩
  have HO := bt.hide hown1
  have B1 := bt.hide hbel1
  clear hown1 hbel1
  go_wp2_with (at_builtin; refine mem.wpList_append_bytes _ rfl _ _ 23 rfl base 5 i0 Try.underlying23 HI.out H0.out H1.out H2.out v1 _ rfl HO.out base A n c ds rfl HN.out ?c2 ?c3 ?c4 ?_)
  case c2 => exact HR.out.below B1.out
  case c3 => simp only [List.length_append]; omega
  case c4 => have := B1.out.size; omega
  intro v2 w2 hown2 hbel2
  try rw [List.append_assoc] at hown2
  have HO2 := bt.hide hown2
  have B2 := bt.hide (B1.out.trans hbel2)
  clear hown2 hbel2
  go_wp2_with fail
  go_ret
  exact ⟨v2, rfl, HO2.out, B2.out⟩
theorem iab (A0 : Option Addr) (bs : List Nat) (n0 c0 : Nat) (A : Option Addr) (n c : Nat) (ds : List Nat) (w : World) (hr0 : mem.Rd w w.heap.size A0 bs) (hn0 : n0 = bs.length) (hr : mem.Rd w w.heap.size A ds) (hn : n = ds.length) (hnm : n ≤ 2147483647) (hl : bs.length + n + 10 ≤ 140737488355328) :
    Calls Try.prog 17 #[.slice A0 n0 c0, .slice A n c] w (mem.Gives w w.heap.size 5 (bs ++ (pl.enc n ++ ds))) := by
  obtain ⟨i0, hi, hz0, hz1, hz2⟩ := info_parts info8
  have HN0 := bt.hide hn0
  have HR0 := bt.hide hr0
  have HN := bt.hide hn
  have HR := bt.hide hr
  have H0 := bt.hide hz0
  have H1 := bt.hide hz1
  have H2 := bt.hide hz2
  have HI := bt.hide hi
  clear hr hr0 hz0 hz1 hz2 hi hn hn0
  go_enter Try.func17, Try.ntmps17
  go_wp2_with (at_builtin; refine mem.wpList_append_bytes _ rfl _ _ 23 rfl w.heap.size 5 i0 Try.underlying23 HI.out H0.out H1.out H2.out _ [] rfl (mem.Own.empty w _ _ (Nat.le_refl _)) w.heap.size A0 n0 c0 bs rfl HN0.out ?c2 ?c3 ?c4 ?_)
  case c2 => exact HR0.out.below ((Below.refl _ _).alloc (Nat.le_refl _) _)
  case c3 => have := HN0.out; simp; omega
  case c4 => simp
  intro v1 w1 hown1 hbel1
  have HO := bt.hide hown1
  have hbel : Below w.heap.size w w1 := ((Below.refl _ _).alloc (Nat.le_refl _) _).trans hbel1
  have HB := bt.hide hbel
  clear hown1 hbel1 hbel
  go_wp2_with fail
  refine (wab w.heap.size v1 bs A n c ds _ HO.out HB.out.size (HR.out.below HB.out) HN.out hnm hl).mono ?_
  rintro e w2 ⟨v2, rfl, hown2, hbel2⟩
  go_wp2_with fail
  go_ret
  exact ⟨v2, rfl, hown2, HB.out.trans hbel2⟩
end Go.Proofs.Ytknjnpmhbgeikaa.ap
