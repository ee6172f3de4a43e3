/-
  Contracts of the reference's functions that read fixed numbers, tags, bytes.
-/
import Derived.Test.YtknjnpmhbgeikaaSpecR
namespace Go.Proofs.Ytknjnpmhbgeikaa.sr
open Go.RowKit
set_option linter.unusedVariables false

theorem results_tmp4 {fn : Func} {t u v x : Tmp} (h : fn.results = #[.tmp t, .tmp u, .tmp v, .tmp x]) (tmps : Array Value) (P : Program) (w : World) :
    (results fn tmps).run P w = .ok (.tuple #[tmps.getD t undef, tmps.getD u undef, tmps.getD v undef, tmps.getD x undef]) w := by simp [results, h]

theorem srv_yes (A : Option Addr) (n c : Nat) (bs : List Nat) (B : Nat) (w : World) (x : Nat × Nat) (hr : mem.Rd w B A bs) (hn : n = bs.length) (hm : n ≤ 9223372036854775807) (h : pl.rv 10 bs = some x) :
    Calls Try.prog 43 #[.slice A n c] w fun e w' => e = .returned (.tuple #[.int .u64 (x.1 : Nat), .int .i64 (x.2 : Nat), .bool true]) ∧ w = w' :=
  (srv A n c bs B w hr hn hm).mono fun e w' ⟨he, hw⟩ => ⟨by rw [he]; unfold RVE; rw [h], hw⟩
theorem srv_no (A : Option Addr) (n c : Nat) (bs : List Nat) (B : Nat) (w : World) (hr : mem.Rd w B A bs) (hn : n = bs.length) (hm : n ≤ 9223372036854775807) (h : pl.rv 10 bs = none) :
    Calls Try.prog 43 #[.slice A n c] w fun e w' => e = .returned (.tuple #[.int .u64 0, .int .i64 0, .bool false]) ∧ w = w' :=
  (srv A n c bs B w hr hn hm).mono fun e w' ⟨he, hw⟩ => ⟨by rw [he]; unfold RVE; rw [h], hw⟩

theorem srt_yes (A : Option Addr) (n c : Nat) (bs : List Nat) (B : Nat) (w : World) (a k m : Nat) (hr : mem.Rd w B A bs) (hn : n = bs.length) (hm : n ≤ 9223372036854775807) (h : pl.rtag bs = some (a, k, m)) :
    Calls Try.prog 46 #[.slice A n c] w fun e w' => e = .returned (.tuple #[.int .i32 (a : Nat), .int .i8 (k : Nat), .int .i64 (m : Nat), .bool true]) ∧ w = w' := by
  obtain ⟨v, hv, ha, hk, h1, h2⟩ := pl.rtag_some h
  have hl := pl.rtag_len h
  have hlt := pl.rv10_lt bs v m hr.1 hv
  have K := bt.hide (srv_yes A n c bs B w (v, m) hr hn hm hv)
  have ea := bt.hide (show (v : Int) / 8 = (a : Int) by omega)
  have ek := bt.hide (show (v : Int) % 8 = (k : Int) by omega)
  have t1 : ¬ (v : Int) / 8 < 1 := by omega
  have t2 : decide ((2147483647 : Int) < (v : Int) / 8) = false := by simp; omega
  have t3 : (v : Int) / 8 ≤ 2147483647 := by omega
  clear hv hr h hn ha hk
  go_enter Try.func46, Try.ntmps46
  go_wp2_with fail
  refine (K.out).mono ?_
  rintro e w1 ⟨rfl, rfl⟩
  go_wp2_with fail
  refine bodyPost_ret (results_tmp4 rfl _ _ _) rfl ?_
  exact ⟨by rw [← ea.out, ← ek.out]; rfl, rfl⟩
theorem srt_no (A : Option Addr) (n c : Nat) (bs : List Nat) (B : Nat) (w : World) (hr : mem.Rd w B A bs) (hn : n = bs.length) (hm : n ≤ 9223372036854775807) (h : pl.rtag bs = none) :
    Calls Try.prog 46 #[.slice A n c] w fun e w' => e = .returned (.tuple #[.int .i32 0, .int .i8 0, .int .i64 0, .bool false]) ∧ w = w' := by
  rcases co.rtag_none h with h1 | ⟨⟨v, m⟩, hv, hc⟩
  · have K := bt.hide (srv_no A n c bs B w hr hn hm h1)
    clear hr h hn h1
    go_enter Try.func46, Try.ntmps46
    go_wp2_with fail
    refine (K.out).mono ?_
    rintro e w1 ⟨rfl, rfl⟩
    go_wp2_with fail
    refine bodyPost_ret (results_tmp4 rfl _ _ _) rfl ?_
    exact ⟨rfl, rfl⟩
  · have hl := pl.rv_some_len 10 bs v m hv
    have hlt := pl.rv10_lt bs v m hr.1 hv
    have K := bt.hide (srv_yes A n c bs B w (v, m) hr hn hm hv)
    simp only at hc
    by_cases h8 : v / 8 < 1
    · have t1 : (v : Int) / 8 < 1 := by omega
      clear hv hr h hn hlt hc h8
      go_enter Try.func46, Try.ntmps46
      go_wp2_with fail
      refine (K.out).mono ?_
      rintro e w1 ⟨rfl, rfl⟩
      go_wp2_with fail
      refine bodyPost_ret (results_tmp4 rfl _ _ _) rfl ?_
      exact ⟨rfl, rfl⟩
    · have t1 : ¬ (v : Int) / 8 < 1 := by omega
      have t2 : (2147483647 : Int) < (v : Int) / 8 := by omega
      clear hv hr h hn hc h8
      go_enter Try.func46, Try.ntmps46
      go_wp2_with fail
      refine (K.out).mono ?_
      rintro e w1 ⟨rfl, rfl⟩
      go_wp2_with fail
      refine bodyPost_ret (results_tmp4 rfl _ _ _) rfl ?_
      exact ⟨rfl, rfl⟩
theorem srb_yes (A : Option Addr) (n c : Nat) (bs : List Nat) (B : Nat) (w : World) (a e : Nat) (hr : mem.Rd w B A bs) (hn : n = bs.length) (hm : n ≤ 9223372036854775807) (h : pl.rbytes bs = some (a, e)) :
    Calls Try.prog 44 #[.slice A n c] w fun e1 w' => e1 = .returned (.tuple #[.int .i64 (a : Nat), .int .i64 (e : Nat), .bool true]) ∧ w = w' := by
  obtain ⟨v, hv, hle, he⟩ := co.rbytes_some h
  have hl := pl.rv_some_len 10 bs v a hv
  have K := bt.hide (srv_yes A n c bs B w (v, a) hr hn hm hv)
  have HE := bt.hide (show (a : Int) + (v : Int) = (e : Int) by omega)
  have b1 : (v : Int) ≤ (n : Int) - (a : Int) := by omega
  have b2 : (0 : Int) ≤ (n : Int) - (a : Int) := by omega
  have b3 : ¬ (n : Int) - (a : Int) < (v : Int) := by omega
  have b4 : decide ((n : Int) - (a : Int) < (v : Int)) = false := by simp; omega
  clear hv hr h hn hle he hl
  go_enter Try.func44, Try.ntmps44
  go_wp2_with fail
  refine (K.out).mono ?_
  rintro e1 w1 ⟨rfl, rfl⟩
  go_wp2_with fail
  go_ret3
  exact ⟨by rw [← HE.out]; rfl, rfl⟩
theorem srb_no (A : Option Addr) (n c : Nat) (bs : List Nat) (B : Nat) (w : World) (hr : mem.Rd w B A bs) (hn : n = bs.length) (hm : n ≤ 9223372036854775807) (h : pl.rbytes bs = none) :
    Calls Try.prog 44 #[.slice A n c] w fun e1 w' => e1 = .returned (.tuple #[.int .i64 0, .int .i64 0, .bool false]) ∧ w = w' := by
  rcases co.rbytes_none h with h1 | ⟨⟨v, a⟩, hv, hlt⟩
  · have K := bt.hide (srv_no A n c bs B w hr hn hm h1)
    clear hr h hn h1
    go_enter Try.func44, Try.ntmps44
    go_wp2_with fail
    refine (K.out).mono ?_
    rintro e w1 ⟨rfl, rfl⟩
    go_wp2_with fail
    go_ret3
    exact ⟨rfl, rfl⟩
  · have hl := pl.rv_some_len 10 bs v a hv
    have hvlt := pl.rv10_lt bs v a hr.1 hv
    have K := bt.hide (srv_yes A n c bs B w (v, a) hr hn hm hv)
    simp only at hlt
    have b2 : (0 : Int) ≤ (n : Int) - (a : Int) := by omega
    have b3 : (n : Int) - (a : Int) < (v : Int) := by omega
    have b4 : decide ((n : Int) - (a : Int) < (v : Int)) = true := by simp; omega
    clear hv hr h hn hlt hvlt hl
    go_enter Try.func44, Try.ntmps44
    go_wp2_with fail
    refine (K.out).mono ?_
    rintro e1 w1 ⟨rfl, rfl⟩
    go_wp2_with fail
    go_ret3
    exact ⟨rfl, rfl⟩
end Go.Proofs.Ytknjnpmhbgeikaa.sr
