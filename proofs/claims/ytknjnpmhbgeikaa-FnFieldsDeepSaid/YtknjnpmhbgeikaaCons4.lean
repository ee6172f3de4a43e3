/-
  Contracts of the thin package's parsing functions, and of ConsumeTag, ConsumeString.
-/
import Derived.Test.YtknjnpmhbgeikaaCons3
namespace Go.Proofs.Ytknjnpmhbgeikaa.co
open Go.RowKit
set_option linter.unusedVariables false


/-- A copy of bytes, and a length. -/
def GotCopy (w : World) (bs : List Nat) (n : Int) (e : Ending) (w' : World) : Prop :=
  ∃ v', e = .returned (.tuple #[v', .int .i64 n]) ∧ mem.Own w' w.heap.size 5 v' bs ∧ Below w.heap.size w w'
theorem icb_yes (A : Option Addr) (n c : Nat) (bs : List Nat) (w : World) (a e : Nat) (hr : mem.Rd w w.heap.size A bs) (hn : n = bs.length) (hc : n ≤ c) (hm : c ≤ maxLen) (hbig : n ≤ 2147483647) (h : pl.rbytes bs = some (a, e)) :
    Calls Try.prog 18 #[.slice A n c] w (GotCopy w ((bs.drop a).take (e - a)) e) := by
  have K := bt.hide (wcb_yes A n c bs w.heap.size w a e hr hn hc hm h)
  obtain ⟨i0, hi, hz0, hz1, hz2⟩ := info_parts info8
  have hl : ((bs.drop a).take (e - a)).length ≤ 2147483647 := by simp; omega
  have H0 := bt.hide hz0
  have H1 := bt.hide hz1
  have H2 := bt.hide hz2
  have HI := bt.hide hi
  clear hz0 hz1 hz2 hi hn hr h
  go_enter Try.func18, Try.ntmps18
  go_wp2_with fail
  refine (K.out).mono ?_
  rintro e1 w1 ⟨A1, c1, rfl, rfl, hr1, _, _⟩
  have HR := bt.hide hr1
  have HL := bt.hide hl
  clear hr1 hl
  generalize hbs : (bs.drop a).take (e - a) = bs1 at *
  clear hbs
  go_wp2_with (at_builtin; refine mem.wpList_append_bytes _ rfl _ _ 23 rfl w.heap.size 5 i0 Try.underlying23 HI.out H0.out H1.out H2.out _ [] rfl (mem.Own.empty w _ _ (Nat.le_refl _)) w.heap.size A1 bs1.length c1 bs1 rfl rfl ?c2 ?c3 ?c4 ?_)
  case c2 => exact HR.out.below ((Below.refl _ _).alloc (Nat.le_refl _) _)
  case c3 => have := HL.out; simp; omega
  case c4 => simp
  intro v1 w1 hown1 hbel1
  have HO := bt.hide hown1
  have hbel := bt.hide (((Below.refl w.heap.size w).alloc (Nat.le_refl _) _).trans hbel1)
  clear hown1 hbel1
  go_wp2_with fail
  go_ret2
  exact ⟨v1, rfl, HO.out, hbel.out⟩
theorem icb_no (A : Option Addr) (n c : Nat) (bs : List Nat) (w : World) (hr : mem.Rd w w.heap.size A bs) (hn : n = bs.length) (hc : n ≤ c) (hm : c ≤ maxLen) (h : pl.rbytes bs = none) :
    Calls Try.prog 18 #[.slice A n c] w fun e w' => ∃ k, GotCopy w [] k e w' ∧ k < 0 := by
  have K := bt.hide (wcb_no A n c bs w.heap.size w hr hn hc hm h)
  obtain ⟨i0, hi, hz0, hz1, hz2⟩ := info_parts info8
  have H0 := bt.hide hz0
  have H1 := bt.hide hz1
  have H2 := bt.hide hz2
  have HI := bt.hide hi
  clear hz0 hz1 hz2 hi hn hr h
  go_enter Try.func18, Try.ntmps18
  go_wp2_with fail
  refine (K.out).mono ?_
  rintro e1 w1 ⟨k, rfl, rfl, hk1, hk2⟩
  go_wp2_with (at_builtin; refine mem.wpList_append_bytes _ rfl _ _ 23 rfl w.heap.size 5 i0 Try.underlying23 HI.out H0.out H1.out H2.out _ [] rfl (mem.Own.empty w _ _ (Nat.le_refl _)) w.heap.size none 0 0 [] rfl rfl ?c2 ?c3 ?c4 ?_)
  case c2 => exact mem.Rd.nil_ _ _ _
  case c3 => simp
  case c4 => simp
  intro v1 w1 hown1 hbel1
  have HO := bt.hide hown1
  have hbel := bt.hide (((Below.refl w.heap.size w).alloc (Nat.le_refl _) _).trans hbel1)
  clear hown1 hbel1
  go_wp2_with fail
  go_ret2
  exact ⟨k, ⟨v1, rfl, HO.out, hbel.out⟩, hk1⟩
/-- No tag: 0, 0 and a negative length. -/
def NegT (w : World) (e : Ending) (w' : World) : Prop := ∃ k : Int, e = .returned (.tuple #[.int .i32 0, .int .i8 0, .int .i64 k]) ∧ w = w' ∧ k < 0 ∧ -10 ≤ k
theorem wct_yes (A : Option Addr) (n c : Nat) (bs : List Nat) (B : Nat) (w : World) (a k m : Nat) (hr : mem.Rd w B A bs) (hn : n = bs.length) (hm : n ≤ 9223372036854775807) (h : pl.rtag bs = some (a, k, m)) :
    Calls Try.prog 40 #[.slice A n c] w fun e w' => e = .returned (.tuple #[.int .i32 (a : Nat), .int .i8 (k : Nat), .int .i64 (m : Nat)]) ∧ w = w' := by
  obtain ⟨v, hv, ha, hk, h1, h2⟩ := pl.rtag_some h
  have hl := pl.rtag_len h
  have hlt := pl.rv10_lt bs v m hr.1 hv
  have K := bt.hide (wcv_yes A n c bs B w (v, m) hr hn hm hv)
  have K2 := bt.hide (fun (W : World) => pu.wdtag (v : Int) W (by omega) (by omega) (by omega))
  have ea := bt.hide (show (v : Int) / 8 = (a : Int) by omega)
  have ek := bt.hide (show (v : Int) % 8 = (k : Int) by omega)
  clear hv hr h hn ha hk hlt
  go_enter Try.func40, Try.ntmps40
  go_wp2_with fail
  refine (K.out).mono ?_
  rintro e w1 ⟨rfl, rfl⟩
  go_wp2_with fail
  refine (K2.out _).mono ?_
  rintro e w2 ⟨rfl, rfl⟩
  rw [ea.out, ek.out]
  go_wp2_with fail
  go_ret3
  exact ⟨rfl, rfl⟩
theorem rtag_none {bs : List Nat} (h : pl.rtag bs = none) : pl.rv 10 bs = none ∨ ∃ x, pl.rv 10 bs = some x ∧ (x.1 / 8 < 1 ∨ 2147483647 < x.1 / 8) := by
  unfold pl.rtag at h
  split at h
  · rename_i hx
    exact .inl hx
  · rename_i x hx
    split at h
    · rename_i hc
      exact .inr ⟨x, hx, hc⟩
    · cases h
theorem wct_no (A : Option Addr) (n c : Nat) (bs : List Nat) (B : Nat) (w : World) (hr : mem.Rd w B A bs) (hn : n = bs.length) (hm : n ≤ 9223372036854775807) (h : pl.rtag bs = none) :
    Calls Try.prog 40 #[.slice A n c] w (NegT w) := by
  rcases rtag_none h with h1 | ⟨⟨v, m⟩, hv, hc⟩
  · have K := bt.hide (wcv_no A n c bs B w hr hn hm h1)
    clear hr h hn h1
    go_enter Try.func40, Try.ntmps40
    go_wp2_with fail
    refine (K.out).mono ?_
    rintro e w1 ⟨k, rfl, rfl, hk1, hk2⟩
    go_wp2_with fail
    go_ret3
    exact ⟨k, rfl, rfl, hk1, hk2⟩
  · have hl := pl.rv_some_len 10 bs v m hv
    have hlt := pl.rv10_lt bs v m hr.1 hv
    have K := bt.hide (wcv_yes A n c bs B w (v, m) hr hn hm hv)
    simp only at hc
    rcases hc with hc | hc
    · have K2 := bt.hide (fun (W : World) => pu.wdtag (v : Int) W (by omega) (by omega) (by omega))
      have h8 : (v : Int) / 8 < 1 := by omega
      clear hv hr h hn hlt hc
      go_enter Try.func40, Try.ntmps40
      go_wp2_with fail
      refine (K.out).mono ?_
      rintro e w1 ⟨rfl, rfl⟩
      go_wp2_with fail
      refine (K2.out _).mono ?_
      rintro e w2 ⟨rfl, rfl⟩
      go_wp2_with fail
      go_ret3
      exact ⟨-2, rfl, rfl, by decide, by decide⟩
    · have K2 := bt.hide (fun (W : World) => pu.wdtag_no (v : Int) W (by omega) (by omega) (by omega))
      clear hv hr h hn hlt hc
      go_enter Try.func40, Try.ntmps40
      go_wp2_with fail
      refine (K.out).mono ?_
      rintro e w1 ⟨rfl, rfl⟩
      go_wp2_with fail
      refine (K2.out _).mono ?_
      rintro e w2 ⟨rfl, rfl⟩
      go_wp2_with fail
      go_ret3
      exact ⟨-2, rfl, rfl, by decide, by decide⟩
theorem ict_yes (A : Option Addr) (n c : Nat) (bs : List Nat) (B : Nat) (w : World) (a k m : Nat) (hr : mem.Rd w B A bs) (hn : n = bs.length) (hm : n ≤ 9223372036854775807) (h : pl.rtag bs = some (a, k, m)) :
    Calls Try.prog 22 #[.slice A n c] w fun e w' => e = .returned (.tuple #[.int .i32 (a : Nat), .int .i8 (k : Nat), .int .i64 (m : Nat)]) ∧ w = w' := by
  have K := bt.hide (wct_yes A n c bs B w a k m hr hn hm h)
  clear hr h hn
  go_enter Try.func22, Try.ntmps22
  go_wp2_with fail
  refine (K.out).mono ?_
  rintro e w1 ⟨rfl, rfl⟩
  go_wp2_with fail
  go_ret3
  exact ⟨rfl, rfl⟩
theorem ict_no (A : Option Addr) (n c : Nat) (bs : List Nat) (B : Nat) (w : World) (hr : mem.Rd w B A bs) (hn : n = bs.length) (hm : n ≤ 9223372036854775807) (h : pl.rtag bs = none) :
    Calls Try.prog 22 #[.slice A n c] w (NegT w) := by
  have K := bt.hide (wct_no A n c bs B w hr hn hm h)
  clear hr h hn
  go_enter Try.func22, Try.ntmps22
  go_wp2_with fail
  refine (K.out).mono ?_
  rintro e w1 ⟨k, rfl, rfl, h1, h2⟩
  go_wp2_with fail
  go_ret3
  exact ⟨k, rfl, rfl, h1, h2⟩
end Go.Proofs.Ytknjnpmhbgeikaa.co
