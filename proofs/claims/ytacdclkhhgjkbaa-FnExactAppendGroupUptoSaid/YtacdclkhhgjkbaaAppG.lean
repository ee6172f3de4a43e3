/-
  The contracts of AppendGroup.
-/
import Derived.Test.YtacdclkhhgjkbaaAppend2
namespace Go.Proofs.Ytacdclkhhgjkbaa.ap
open Go.RowKit
set_option linter.unusedVariables false

theorem wag (base : Nat) (v : Value) (bs : List Nat) (A : Option Addr) (n c : Nat) (ds : List Nat) (a : Int) (w : World) (h0 : 0 ≤ a) (h1 : a ≤ 2147483647) (hown : mem.Own w base 5 v bs) (hb : base ≤ w.heap.size)
    (hr : mem.Rd w base A ds ∨ ∃ B, mem.Rd w B A ds) (hn : n = ds.length) (hl : bs.length + n + 10 ≤ 140737488355328) :
    Calls Try.prog 26 #[v, .int .i32 a, .slice A n c] w (mem.Gives w base 5 ((bs ++ ds) ++ pl.enc (pl.tagN a 4))) := by
  obtain ⟨i0, hi, hz0, hz1, hz2⟩ := info_parts info8
  obtain ⟨B, hr⟩ : ∃ B, mem.Rd w B A ds := by
    rcases hr with h | h
    · exact ⟨base, h⟩
    · exact h
  have HOWN := bt.hide hown
  have HN := bt.hide hn
  have HR := bt.hide hr
  have H0 := bt.hide hz0
  have H1 := bt.hide hz1
  have H2 := bt.hide hz2
  have HI := bt.hide hi
  clear hown hr hz0 hz1 hz2 hi hn
  go_enter Try.func26, Try.ntmps26
  go_wp2_with (at_builtin; refine mem.wpList_append_bytes _ rfl _ _ 25 rfl base 5 i0 Try.underlying25 HI.out H0.out H1.out H2.out _ bs rfl HOWN.out B A n c ds rfl HN.out HR.out ?c3 hb ?_)
  case c3 => omega
  intro v1 w1 hown1 hbel1
  have HO := bt.hide hown1
  have HBL := bt.hide hbel1
  have hlen : (bs ++ ds).length + 10 ≤ 140737488355328 := by rw [List.length_append, ← HN.out]; omega
  have hs := Nat.le_trans hb hbel1.size
  generalize bs ++ ds = X at *
  clear hown1 hbel1
  go_wp2_with fail
  refine (pu.wtag a 4 _ h0 h1 (by decide) (by decide)).mono ?_
  rintro e w' ⟨rfl, rfl⟩
  go_wp2_with fail
  refine (wavar base v1 X (a * 8 + 4) _ (by omega) (by omega) HO.out hs hlen).mono ?_
  rintro e w2 ⟨v2, rfl, hown2, hbel2⟩
  have HO2 := bt.hide hown2
  have HB2 := bt.hide (HBL.out.trans hbel2)
  clear hown2 hbel2
  go_wp2_with fail
  go_ret
  exact ⟨v2, rfl, by rw [show pl.tagN a 4 = (a * 8 + 4).toNat by unfold pl.tagN; omega]; exact HO2.out, HB2.out⟩
theorem iag (A0 : Option Addr) (bs : List Nat) (n0 c0 : Nat) (A : Option Addr) (n c : Nat) (ds : List Nat) (a : Int) (w : World) (h0 : 0 ≤ a) (h1 : a ≤ 2147483647) (hr0 : mem.Rd w w.heap.size A0 bs) (hn0 : n0 = bs.length)
    (hr : mem.Rd w w.heap.size A ds) (hn : n = ds.length) (hl : bs.length + n + 10 ≤ 140737488355328) :
    Calls Try.prog 17 #[.slice A0 n0 c0, .int .i32 a, .slice A n c] w (mem.Gives w w.heap.size 5 ((bs ++ ds) ++ pl.enc (pl.tagN a 4))) := by
  obtain ⟨i0, hi, hz0, hz1, hz2⟩ := info_parts info8
  have HN0 := bt.hide hn0
  have HR0 := bt.hide hr0
  have HN := bt.hide hn
  have HR := bt.hide hr
  have H0 := bt.hide hz0
  have H1 := bt.hide hz1
  have H2 := bt.hide hz2
  have HI := bt.hide hi
  clear hr0 hr hz0 hz1 hz2 hi hn0 hn
  go_enter Try.func17, Try.ntmps17
  go_wp2_with (at_builtin; refine mem.wpList_append_bytes _ rfl _ _ 25 rfl w.heap.size 5 i0 Try.underlying25 HI.out H0.out H1.out H2.out _ [] rfl (mem.Own.empty w _ _ (Nat.le_refl _)) w.heap.size A0 n0 c0 bs rfl HN0.out ?c2 ?c3 ?c4 ?_)
  case c2 => exact HR0.out.below ((Below.refl _ _).alloc (Nat.le_refl _) _)
  case c3 => have := HN0.out; simp; omega
  case c4 => simp
  intro v1 w1 hown1 hbel1
  try simp only [List.nil_append] at hown1
  have HO := bt.hide hown1
  clear hown1
  have hbel : Below w.heap.size w w1 := ((Below.refl _ _).alloc (Nat.le_refl _) _).trans hbel1
  have HBL := bt.hide hbel
  clear hbel1 hbel
  go_wp2_with fail
  refine (wag w.heap.size v1 bs A n c ds a _ h0 h1 HO.out HBL.out.size (.inl (HR.out.below HBL.out)) HN.out hl).mono ?_
  rintro e w2 ⟨v2, rfl, hown2, hbel2⟩
  have HO2 := bt.hide hown2
  have HB2 := bt.hide (HBL.out.trans hbel2)
  clear hown2 hbel2
  go_wp2_with fail
  go_ret
  exact ⟨v2, rfl, HO2.out, HB2.out⟩
end Go.Proofs.Ytacdclkhhgjkbaa.ap
