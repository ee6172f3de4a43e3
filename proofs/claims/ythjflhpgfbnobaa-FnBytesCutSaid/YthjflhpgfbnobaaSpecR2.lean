/-
  Contracts of the reference's functions that read fixed numbers, tags, bytes.
-/
import Derived.Test.YthjflhpgfbnobaaSpecR
namespace Go.Proofs.Ythjflhpgfbnobaa.sr
open Go.RowKit
set_option linter.unusedVariables false

theorem results_tmp4 {fn : Func} {t u v x : Tmp} (h : fn.results = #[.tmp t, .tmp u, .tmp v, .tmp x]) (tmps : Array Value) (P : Program) (w : World) :
    (results fn tmps).run P w = .ok (.tuple #[tmps.getD t undef, tmps.getD u undef, tmps.getD v undef, tmps.getD x undef]) w := by simp [results, h]

theorem srv_yes (A : Option Addr) (n c : Nat) (bs : List Nat) (B : Nat) (w : World) (x : Nat × Nat) (hr : mem.Rd w B A bs) (hn : n = bs.length) (hm : n ≤ 9223372036854775807) (h : pl.rv 10 bs = some x) :
    Calls Try.prog 16 #[.slice A n c] w fun e w' => e = .returned (.tuple #[.int .u64 (x.1 : Nat), .int .i64 (x.2 : Nat), .bool true]) ∧ w = w' :=
  (srv A n c bs B w hr hn hm).mono fun e w' ⟨he, hw⟩ => ⟨by rw [he]; unfold RVE; rw [h], hw⟩
theorem srv_no (A : Option Addr) (n c : Nat) (bs : List Nat) (B : Nat) (w : World) (hr : mem.Rd w B A bs) (hn : n = bs.length) (hm : n ≤ 9223372036854775807) (h : pl.rv 10 bs = none) :
    Calls Try.prog 16 #[.slice A n c] w fun e w' => e = .returned (.tuple #[.int .u64 0, .int .i64 0, .bool false]) ∧ w = w' :=
  (srv A n c bs B w hr hn hm).mono fun e w' ⟨he, hw⟩ => ⟨by rw [he]; unfold RVE; rw [h], hw⟩

theorem srt_yes (A : Option Addr) (n c : Nat) (bs : List Nat) (B : Nat) (w : World) (a k m : Nat) (hr : mem.Rd w B A bs) (hn : n = bs.length) (hm : n ≤ 9223372036854775807) (h : pl.rtag bs = some (a, k, m)) :
    Calls Try.prog 27 #[.slice A n c] w fun e w' => e = .returned (.tuple #[.int .i32 (a : Nat), .int .i8 (k : Nat), .int .i64 (m : Nat), .bool true]) ∧ w = w' := by
  obtain ⟨v, hv, ha, hk, h1, h2⟩ := pl.rtag_some h
  have hl := pl.rtag_len h
  have hlt := pl.rv10_lt bs v m hr.1 hv
  have K := bt.hide (srv_yes A n c bs B w (v, m) hr hn hm hv)
  have ea := bt.hide (show (v : Int) / 8 = (a : Int) by omega)
  have ek := bt.hide (show (v : Int) % 8 = (k : Int) by omega)
  have t1 : ¬ (v : Int) / 8 < 1 := by omega
  have t2 : decide ((2147483647 : Int) < (v : Int) / 8) = false := by simp; omega
  have t3 : (v : Int) / 8 ≤ 2147483647 := by omega
  clear hv hr h hn ha hk
  go_enter Try.func27, Try.ntmps27
  go_wp2_with fail
  refine (K.out).mono ?_
  rintro e w1 ⟨rfl, rfl⟩
  go_wp2_with fail
  refine bodyPost_ret (results_tmp4 rfl _ _ _) rfl ?_
  exact ⟨by rw [← ea.out, ← ek.out]; rfl, rfl⟩
theorem srt_no (A : Option Addr) (n c : Nat) (bs : List Nat) (B : Nat) (w : World) (hr : mem.Rd w B A bs) (hn : n = bs.length) (hm : n ≤ 9223372036854775807) (h : pl.rtag bs = none) :
    Calls Try.prog 27 #[.slice A n c] w fun e w' => e = .returned (.tuple #[.int .i32 0, .int .i8 0, .int .i64 0, .bool false]) ∧ w = w' := by
  rcases co.rtag_none h with h1 | ⟨⟨v, m⟩, hv, hc⟩
  · have K := bt.hide (srv_no A n c bs B w hr hn hm h1)
    clear hr h hn h1
    go_enter Try.func27, Try.ntmps27
    go_wp2_with fail
    refine (K.out).mono ?_
    rintro e w1 ⟨rfl, rfl⟩
    go_wp2_with fail
    refine bodyPost_ret (results_tmp4 rfl _ _ _) rfl ?_
    exact ⟨rfl, rfl⟩
  · have hl := pl.rv_some_len 10 bs v m hv
    have hlt := pl.rv10_lt bs v m hr.1 hv
    have K := bt.hide (srv_yes A n c bs B w (v, m) hr hn hm hv)
    simp only at hc
    by_cases h8 : v / 8 < 1
    · have t1 : (v : Int) / 8 < 1 := by omega
      clear hv hr h hn hlt hc h8
      go_enter Try.func27, Try.ntmps27
      go_wp2_with fail
      refine (K.out).mono ?_
      rintro e w1 ⟨rfl, rfl⟩
      go_wp2_with fail
      refine bodyPost_ret (results_tmp4 rfl _ _ _) rfl ?_
      exact ⟨rfl, rfl⟩
    · have t1 : ¬ (v : Int) / 8 < 1 := by omega
      have t2 : (2147483647 : Int) < (v : Int) / 8 := by omega
      clear hv hr h hn hc h8
      go_enter Try.func27, Try.ntmps27
      go_wp2_with fail
      refine (K.out).mono ?_
      rintro e w1 ⟨rfl, rfl⟩
      go_wp2_with fail
      refine bodyPost_ret (results_tmp4 rfl _ _ _) rfl ?_
      exact ⟨rfl, rfl⟩
theorem srb_yes (A : Option Addr) (n c : Nat) (bs : List Nat) (B : Nat) (w : World) (a e : Nat) (hr : mem.Rd w B A bs) (hn : n = bs.length) (hm : n ≤ 9223372036854775807) (h : pl.rbytes bs = some (a, e)) :
    Calls Try.prog 24 #[.slice A n c] w fun e1 w' => e1 = .returned (.tuple #[.int .i64 (a : Nat), .int .i64 (e : Nat), .bool true]) ∧ w = w' := by
  obtain ⟨v, hv, hle, he⟩ := co.rbytes_some h
  have hl := pl.rv_some_len 10 bs v a hv
  have K := bt.hide (srv_yes A n c bs B w (v, a) hr hn hm hv)
  have HE := bt.hide (show (a : Int) + (v : Int) = (e : Int) by omega)
  have b1 : (v : Int) ≤ (n : Int) - (a : Int) := by omega
  have b2 : (0 : Int) ≤ (n : Int) - (a : Int) := by omega
  have b3 : ¬ (n : Int) - (a : Int) < (v : Int) := by omega
  have b4 : decide ((n : Int) - (a : Int) < (v : Int)) = false := by simp; omega
  clear hv hr h hn hle he hl
  go_enter Try.func24, Try.ntmps24
  go_wp2_with fail
  refine (K.out).mono ?_
  rintro e1 w1 ⟨rfl, rfl⟩
  go_wp2_with fail
  go_ret3
  exact ⟨by rw [← HE.out]; rfl, rfl⟩
theorem srb_no (A : Option Addr) (n c : Nat) (bs : List Nat) (B : Nat) (w : World) (hr : mem.Rd w B A bs) (hn : n = bs.length) (hm : n ≤ 9223372036854775807) (h : pl.rbytes bs = none) :
    Calls Try.prog 24 #[.slice A n c] w fun e1 w' => e1 = .returned (.tuple #[.int .i64 0, .int .i64 0, .bool false]) ∧ w = w' := by
  rcases co.rbytes_none h with h1 | ⟨⟨v, a⟩, hv, hlt⟩
  · have K := bt.hide (srv_no A n c bs B w hr hn hm h1)
    clear hr h hn h1
    go_enter Try.func24, Try.ntmps24
    go_wp2_with fail
    refine (K.out).mono ?_
    rintro e w1 ⟨rfl, rfl⟩
    go_wp2_with fail
    go_ret3
    exact ⟨rfl, rfl⟩
  · have hl := pl.rv_some_len 10 bs v a hv
    have hvlt := pl.rv10_lt bs v a hr.1 hv
    have K := bt.hide (srv_yes A n c bs B w (v, a) hr hn hm hv)
    simp only at hlt
    have b2 : (0 : Int) ≤ (n : Int) - (a : Int) := by omega
    have b3 : (n : Int) - (a : Int) < (v : Int) := by omega
    have b4 : decide ((n : Int) - (a : Int) < (v : Int)) = true := by simp; omega
    clear hv hr h hn hlt hvlt hl
    go_enter Try.func24, Try.ntmps24
    go_wp2_with fail
    refine (K.out).mono ?_
    rintro e1 w1 ⟨rfl, rfl⟩
    go_wp2_with fail
    go_ret3
    exact ⟨rfl, rfl⟩
theorem pow256 (k : Nat) (h : k ≤ 8) : 256 ^ k ≤ 18446744073709551616 := by
  have : k = 0 ∨ k = 1 ∨ k = 2 ∨ k = 3 ∨ k = 4 ∨ k = 5 ∨ k = 6 ∨ k = 7 ∨ k = 8 := by omega
  rcases this with rfl | rfl | rfl | rfl | rfl | rfl | rfl | rfl | rfl <;> decide
theorem drop_byte {bs : List Nat} (h : ∀ j, bs.getD j 0 < 256) (k : Nat) : ∀ j, (bs.drop k).getD j 0 < 256 := by
  intro j
  have := h (k + j)
  rwa [List.getD_eq_getElem?_getD, List.getElem?_drop, ← List.getD_eq_getElem?_getD]
theorem srf_no (A : Option Addr) (n c m : Nat) (w : World) (h : n < m) (hm : m ≤ 8) :
    Calls Try.prog 20 #[.slice A n c, .int .i64 m] w fun e w' => e = .returned (.tuple #[.int .u64 0, .bool false]) ∧ w = w' := by
  have i1 : ¬ (m : Int) ≤ (n : Int) := by omega
  have i2 : (0 : Int) ≤ (m : Int) - 1 := by omega
  have i3 : decide ((m : Int) ≤ (n : Int)) = false := by simp; omega
  clear h
  go_enter Try.func20, Try.ntmps20
  go_wp2_with fail
  go_loop [6, 7] (fun v i => v = .int .u64 0 ∧ i = .int .i64 ((m : Int) - 1)) (fun _ _ => 0)
  case atStart => exact ⟨rfl, rfl⟩
  case round =>
    obtain ⟨rfl, rfl⟩ := hrel
    go_wp2
    go_ret2
    exact ⟨rfl, rfl⟩
set_option maxHeartbeats 400000 in
theorem srf_yes (A : Option Addr) (n c m : Nat) (bs : List Nat) (B : Nat) (w : World) (hr : mem.Rd w B A bs) (hn : n = bs.length) (h : m ≤ n) (hm : m ≤ 8) (hm1 : 1 ≤ m) (hmx : n ≤ 9223372036854775807) :
    Calls Try.prog 20 #[.slice A n c, .int .i64 m] w fun e w' => e = .returned (.tuple #[.int .u64 (pl.leN m bs : Nat), .bool true]) ∧ w = w' := by
  obtain ⟨b, off, rfl, _, hc⟩ := hr.at_ (by omega)
  have i1 : (m : Int) ≤ (n : Int) := by omega
  have HC : Hid (∀ j, j < n → w.cell? ⟨b, off + j, none⟩ = some (.int .u8 (bs.getD j 0 : Nat))) := bt.hide (fun j hj => hc j (by omega))
  have HB := bt.hide hr.byte
  have HD := bt.hide (List.drop_zero (l := bs))
  clear hc hr hn
  go_enter Try.func20, Try.ntmps20
  go_wp2_with fail
  go_loop [6, 7] (fun v i => ∃ j V : Nat, j ≤ m ∧ v = .int .u64 V ∧ i = .int .i64 ((j : Int) - 1) ∧ Hid (V = pl.leN (m - j) (bs.drop j))) (fun _ i => (intOf i + 1).toNat)
  case atStart => exact ⟨m, 0, by omega, rfl, rfl, bt.hide (by rw [Nat.sub_self]; rfl)⟩
  case round =>
    obtain ⟨j, V, hj, rfl, rfl, hv⟩ := hrel
    rcases Nat.eq_zero_or_pos j with h0 | h0
    · subst h0
      have hfin := bt.hide (show (V : Int) = (pl.leN m bs : Nat) by rw [hv.out, List.drop_zero, Nat.sub_zero])
      go_wp2
      go_ret2
      exact ⟨by rw [← hfin.out]; rfl, rfl⟩
    · obtain ⟨q, rfl⟩ : ∃ q, j = q + 1 := ⟨j - 1, by omega⟩
      have e : ((q + 1 : Nat) : Int) - 1 = (q : Int) := by omega
      rw [e]
      have hcell := HC.out q (by omega)
      have hx := HB.out q
      have hnext := bt.hide (pl.leN_at (m - (q + 1)) bs q)
      have hlt := pl.leN_lt (m - (q + 1)) (bs.drop (q + 1)) (drop_byte HB.out _)
      have hp := pow256 (m - (q + 1) + 1) (by omega)
      rw [Nat.pow_succ] at hp
      have hV : V * 256 + 255 < 18446744073709551616 := by rw [hv.out]; omega
      generalize bs.getD q 0 = x at *
      have i2 : (q : Int) < (n : Int) := by omega
      clear hlt hp e
      go_wp2
      go_round
      case rel => exact ⟨q, V * 256 + x, by omega, by go_num, rfl, bt.hide (by rw [show m - q = m - (q + 1) + 1 by omega, hnext.out, hv.out]; omega)⟩
      case measure => simp [intOf] <;> omega
end Go.Proofs.Ythjflhpgfbnobaa.sr
