/-
  The contract of ConsumeBytes where only what is taken is bounded, not what it is taken of.
-/
import Derived.Test.YtknjnpmhbgeikaaCons4
namespace Go.Proofs.Ytknjnpmhbgeikaa.co
open Go.RowKit
set_option linter.unusedVariables false

theorem icb_yes2 (A : Option Addr) (n c : Nat) (bs : List Nat) (w : World) (a e : Nat) (hr : mem.Rd w w.heap.size A bs) (hn : n = bs.length) (hc : n ≤ c) (hm : c ≤ maxLen) (h : pl.rbytes bs = some (a, e)) (hl : ((bs.drop a).take (e - a)).length ≤ 2147483647) :
    Calls Try.prog 18 #[.slice A n c] w (GotCopy w ((bs.drop a).take (e - a)) e) := by
  have K := bt.hide (wcb_yes A n c bs w.heap.size w a e hr hn hc hm h)
  obtain ⟨i0, hi, hz0, hz1, hz2⟩ := info_parts info8
  have H0 := bt.hide hz0
  have H1 := bt.hide hz1
  have H2 := bt.hide hz2
  have HI := bt.hide hi
  clear hz0 hz1 hz2 hi hn hr h
  go_enter Try.func18, Try.ntmps18
  go_wp2_with fail
  refine (K.out).mono ?_
  rintro e1 w1 ⟨A1, c1, rfl, rfl, hr1, _, _⟩
  have HR := bt.hide hr1
  have HL := bt.hide hl
  clear hr1 hl
  generalize hbs : (bs.drop a).take (e - a) = bs1 at *
  clear hbs
  go_wp2_with (at_builtin; refine mem.wpList_append_bytes _ rfl _ _ 23 rfl w.heap.size 5 i0 Try.underlying23 HI.out H0.out H1.out H2.out _ [] rfl (mem.Own.empty w _ _ (Nat.le_refl _)) w.heap.size A1 bs1.length c1 bs1 rfl rfl ?c2 ?c3 ?c4 ?_)
  case c2 => exact HR.out.below ((Below.refl _ _).alloc (Nat.le_refl _) _)
  case c3 => have := HL.out; simp; omega
  case c4 => simp
  intro v1 w1 hown1 hbel1
  have HO := bt.hide hown1
  have hbel := bt.hide (((Below.refl w.heap.size w).alloc (Nat.le_refl _) _).trans hbel1)
  clear hown1 hbel1
  go_wp2_with fail
  go_ret2
  exact ⟨v1, rfl, HO.out, hbel.out⟩
end Go.Proofs.Ytknjnpmhbgeikaa.co
