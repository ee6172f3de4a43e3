/-
  Contracts of the reference's functions that read numbers, tags, bytes.
-/
import Derived.Test.YtknjnpmhbgeikaaCons4
namespace Go.Proofs.Ytknjnpmhbgeikaa.sr
open Go.RowKit
set_option linter.unusedVariables false

/-- Read so far: k bytes that go on; v: their number; p: 128 to the k-th. -/
def VR (bs : List Nat) (k v p : Nat) : Prop :=
  k ≤ bs.length ∧ k ≤ 10 ∧ p = 128 ^ k % 18446744073709551616 ∧ v < 128 ^ k ∧ pl.rv 10 bs = (pl.rv (10 - k) (bs.drop k)).map fun x => (v + 128 ^ k * x.1, x.2 + k)
theorem VR.start (bs : List Nat) : VR bs 0 0 1 := by
  refine ⟨by omega, by omega, by decide, by decide, ?_⟩
  rw [List.drop_zero]
  cases pl.rv 10 bs <;> simp
theorem pow_k (k : Nat) (h : k ≤ 9) : 128 ^ k < 18446744073709551616 ∧ 128 ^ (k + 1) = 128 * 128 ^ k ∧ (k ≤ 8 → 128 ^ (k + 1) < 18446744073709551616) ∧ (k = 9 → 128 ^ k = 9223372036854775808) := by
  have : k = 0 ∨ k = 1 ∨ k = 2 ∨ k = 3 ∨ k = 4 ∨ k = 5 ∨ k = 6 ∨ k = 7 ∨ k = 8 ∨ k = 9 := by omega
  rcases this with rfl | rfl | rfl | rfl | rfl | rfl | rfl | rfl | rfl | rfl <;> decide
/-- One byte more that goes on. -/
theorem VR.go_on {bs : List Nat} {k v p : Nat} (h : VR bs k v p) (hk : k < bs.length) (h10 : k < 10) (hb : 128 ≤ bs.getD k 0) (hb2 : bs.getD k 0 < 256) :
    VR bs (k + 1) (v + bs.getD k 0 % 128 * p) (p * 128 % 18446744073709551616) := by
  obtain ⟨h1, h2, h3, h4, h5⟩ := h
  obtain ⟨q1, q2, q3, q4⟩ := pow_k k (by omega)
  have hp : p = 128 ^ k := by rw [h3, Nat.mod_eq_of_lt q1]
  have hstep := co.step_on k (9 - k) bs hk hb
  rw [show 9 - k + 1 = 10 - k by omega] at hstep
  rw [hstep] at h5
  refine ⟨by omega, by omega, by rw [hp, q2, Nat.mul_comm], ?_, ?_⟩
  · rw [hp, q2]
    have : bs.getD k 0 % 128 * 128 ^ k ≤ 127 * 128 ^ k := Nat.mul_le_mul_right _ (by omega)
    omega
  · rw [h5, show 10 - (k + 1) = 9 - k by omega, hp, q2]
    cases pl.rv (9 - k) (bs.drop (k + 1)) with
    | none => rfl
    | some x =>
      simp only [Option.map_some, Option.some.injEq, Prod.mk.injEq]
      refine ⟨?_, by omega⟩
      rw [Nat.mul_add, show bs.getD k 0 % 128 = bs.getD k 0 - 128 by omega, Nat.mul_comm (bs.getD k 0 - 128), ← Nat.mul_assoc, Nat.mul_comm (128 ^ k) 128]
      omega
/-- The last byte. -/
theorem VR.done {bs : List Nat} {k v p : Nat} (h : VR bs k v p) (hk : k < bs.length) (h10 : k < 10) (hb : bs.getD k 0 < 128) (h9 : k = 9 → bs.getD k 0 ≤ 1) :
    pl.rv 10 bs = some (v + bs.getD k 0 % 128 * p, k + 1) ∧ v + bs.getD k 0 % 128 * p < 18446744073709551616 := by
  obtain ⟨h1, h2, h3, h4, h5⟩ := h
  obtain ⟨q1, q2, q3, q4⟩ := pow_k k (by omega)
  have hp : p = 128 ^ k := by rw [h3, Nat.mod_eq_of_lt q1]
  have hstep := co.step_end k (9 - k) bs hk hb (fun h => h9 (by omega))
  rw [show 9 - k + 1 = 10 - k by omega] at hstep
  rw [hstep] at h5
  constructor
  · rw [h5, hp]
    simp only [Option.map_some, Option.some.injEq, Prod.mk.injEq]
    refine ⟨?_, by omega⟩
    rw [Nat.mod_eq_of_lt hb, Nat.mul_comm]
  · rw [hp]
    rcases Nat.lt_or_ge k 9 with h | h
    · have : bs.getD k 0 % 128 * 128 ^ k ≤ 127 * 128 ^ k := Nat.mul_le_mul_right _ (by omega)
      have := q3 (by omega)
      omega
    · obtain rfl : k = 9 := by omega
      have h6 := h9 rfl
      have h7 := q4 rfl
      rw [h7] at h4 ⊢
      have : bs.getD 9 0 % 128 ≤ 1 := by omega
      have := Nat.mul_le_mul_right 9223372036854775808 this
      omega
/-- The tenth byte is too large. -/
theorem VR.bad {bs : List Nat} {v p : Nat} (h : VR bs 9 v p) (hk : 9 < bs.length) (hb : 1 < bs.getD 9 0) : pl.rv 10 bs = none := by
  obtain ⟨h1, h2, h3, h4, h5⟩ := h
  have := co.step_bad 9 bs hk (by omega)
  rw [h5, show 10 - 9 = 1 by decide, this]
  rfl
/-- Nothing is left to read. -/
theorem VR.out_ {bs : List Nat} {k v p : Nat} (h : VR bs k v p) (hk : bs.length ≤ k ∨ 10 ≤ k) : pl.rv 10 bs = none := by
  obtain ⟨h1, h2, h3, h4, h5⟩ := h
  rw [h5]
  rcases hk with hk | hk
  · rw [List.drop_eq_nil_of_le hk]
    cases 10 - k <;> rfl
  · obtain rfl : k = 10 := by omega
    rfl
theorem VR.small {bs : List Nat} {k v p : Nat} (h : VR bs k v p) : p < 18446744073709551616 := by
  rw [h.2.2.1]
  exact Nat.mod_lt _ (by decide)
theorem VR.sum {bs : List Nat} {k v p : Nat} (h : VR bs k v p) (h9 : k < 9 ∨ (k = 9 ∧ bs.getD k 0 ≤ 1)) (hb : bs.getD k 0 < 256) : v + bs.getD k 0 % 128 * p < 18446744073709551616 ∧ bs.getD k 0 % 128 * p < 18446744073709551616 := by
  obtain ⟨h1, h2, h3, h4, h5⟩ := h
  obtain ⟨q1, q2, q3, q4⟩ := pow_k k (by omega)
  have hp : p = 128 ^ k := by rw [h3, Nat.mod_eq_of_lt q1]
  rw [hp]
  rcases h9 with h | ⟨rfl, h6⟩
  · have : bs.getD k 0 % 128 * 128 ^ k ≤ 127 * 128 ^ k := Nat.mul_le_mul_right _ (by omega)
    have := q3 (by omega)
    omega
  · have h7 := q4 rfl
    rw [h7] at h4 ⊢
    have : bs.getD 9 0 % 128 ≤ 1 := by omega
    have := Nat.mul_le_mul_right 9223372036854775808 this
    omega

theorem wrapM (x P M : Nat) (h : x % 128 * P = M) (hl : M < 18446744073709551616) : IntKind.u64.wrap ((x : Int) % 128 * (P : Int)) = (M : Int) := by
  have e : (x : Int) % 128 * (P : Int) = (M : Int) := by rw [← h, Int.natCast_mul, Int.natCast_emod]; rfl
  rw [e, IntKind.wrap_u64]
  omega

/-- What the reference answers: the number, how many bytes, and that there is one; or zeros. -/
def RVE (bs : List Nat) : Ending := match pl.rv 10 bs with
  | some x => .returned (.tuple #[.int .u64 (x.1 : Nat), .int .i64 (x.2 : Nat), .bool true])
  | none => .returned (.tuple #[.int .u64 0, .int .i64 0, .bool false])
theorem RVE.some_ {bs : List Nat} {v n : Nat} {V N : Int} (h : pl.rv 10 bs = some (v, n)) (h1 : V = v) (h2 : N = n) : Ending.returned (.tuple #[.int .u64 V, .int .i64 N, .bool true]) = RVE bs := by
  unfold RVE
  rw [h, h1, h2]
theorem RVE.none_ {bs : List Nat} (h : pl.rv 10 bs = none) : Ending.returned (.tuple #[.int .u64 0, .int .i64 0, .bool false]) = RVE bs := by
  unfold RVE
  rw [h]

set_option maxRecDepth 100000 in
set_option maxHeartbeats 1000000 in
theorem srv (A : Option Addr) (n c : Nat) (bs : List Nat) (B : Nat) (w : World) (hr : mem.Rd w B A bs) (hn : n = bs.length) (hm : n ≤ 9223372036854775807) :
    Calls Try.prog 43 #[.slice A n c] w fun e w' => e = RVE bs ∧ w = w' := by
  have HN := bt.hide hn
  have HR := bt.hide hr
  have HS := bt.hide (VR.start bs)
  clear hn hr
  go_enter Try.func43, Try.ntmps43
  go_wp2_with fail
  go_loop [5, 6, 7] (fun v p i => ∃ k V P : Nat, i = .int .i64 k ∧ v = .int .u64 V ∧ p = .int .u64 P ∧ k ≤ 10 ∧ Hid (VR bs k V P)) (fun _ _ i => 10 - (intOf i).toNat)
  case atStart => exact ⟨0, 0, 1, rfl, rfl, rfl, by omega, HS⟩
  case round =>
    obtain ⟨k, V, P, rfl, rfl, rfl, hk10, hv⟩ := hrel
    by_cases h1 : k < n
    · obtain ⟨b, off, hA, _, hc⟩ := HR.out.at_ (by have := HN.out; omega)
      have hcell := hc k (by have := HN.out; omega)
      subst hA
      have hxb := HR.out.byte k
      have h1b : k < bs.length := by have := HN.out; omega
      have hcell' : w.cell? ⟨b, off + k, none⟩ = some (.int .u8 (bs.getD k 0 : Nat)) := hcell
      clear hc hcell
      have i1 : (k : Int) < (n : Int) := by omega
      by_cases h2 : k < 10
      · have i2 : (k : Int) < (10 : Int) := by omega
        by_cases h9 : k = 9
        · subst h9
          by_cases hx : 1 < bs.getD 9 0
          · have hfin := bt.hide (hv.out.bad h1b hx)
            generalize bs.getD 9 0 = x at *
            have ix : (1 : Int) < (x : Int) := by omega
            clear hk10 hx h1b h1 h2
            go_wp2
            go_ret3
            exact ⟨RVE.none_ hfin.out, rfl⟩
          · have hsum := hv.out.sum (.inr ⟨rfl, by omega⟩) hxb
            have hfin := bt.hide (hv.out.done h1b h2 (by omega) (fun _ => by omega)).1
            generalize bs.getD 9 0 = x at *
            generalize hMd : x % 128 * P = M at *
            have hM : IntKind.u64.wrap ((x : Int) % 128 * (P : Int)) = (M : Int) := wrapM x P M hMd (by omega)
            have ix : ¬ (1 : Int) < (x : Int) := by omega
            have ix2 : (x : Int) < 128 := by omega
            obtain ⟨s1, s2⟩ := hsum
            clear hk10 hx h1b h1 h2 hMd
            go_wp2
            go_ret3
            exact ⟨RVE.some_ hfin.out (by omega) (by omega), rfl⟩
        · have hsum := hv.out.sum (.inl (by omega)) hxb
          have hP := hv.out.small
          by_cases hx : bs.getD k 0 < 128
          · have hfin := bt.hide (hv.out.done h1b h2 (by omega) (fun _ => by omega)).1
            generalize bs.getD k 0 = x at *
            generalize hMd : x % 128 * P = M at *
            have hM : IntKind.u64.wrap ((x : Int) % 128 * (P : Int)) = (M : Int) := wrapM x P M hMd (by omega)
            have i9 : ((k : Int) == 9) = false := by simp; omega
            have ix2 : (x : Int) < 128 := by omega
            obtain ⟨s1, s2⟩ := hsum
            clear hk10 hx h1b h1 h2 hMd
            go_wp2
            go_ret3
            exact ⟨RVE.some_ hfin.out (by omega) (by omega), rfl⟩
          · have hgo := bt.hide (hv.out.go_on h1b h2 (by omega) hxb)
            generalize bs.getD k 0 = x at *
            generalize hMd : x % 128 * P = M at *
            generalize hPd : P * 128 % 18446744073709551616 = P2 at *
            have hM : IntKind.u64.wrap ((x : Int) % 128 * (P : Int)) = (M : Int) := wrapM x P M hMd (by omega)
            have hP2 : IntKind.u64.wrap ((P : Int) * 128) = (P2 : Int) := by rw [← hPd, IntKind.wrap_u64]; omega
            have i9 : ((k : Int) == 9) = false := by simp; omega
            have ix2 : ¬ (x : Int) < 128 := by omega
            obtain ⟨s1, s2⟩ := hsum
            clear hx h1b h1 h2 hMd hPd hP
            go_wp2
            go_round
            case rel => exact ⟨k + 1, V + M, P2, by go_num, by go_num, rfl, by omega, hgo⟩
            case measure => simp [intOf]; omega
      · have hfin := bt.hide (hv.out.out_ (.inr (by omega)))
        have i2 : ¬ (k : Int) < (10 : Int) := by omega
        clear h1 h2 h1b
        go_wp2
        go_ret3
        exact ⟨RVE.none_ hfin.out, rfl⟩
    · have hfin := bt.hide (hv.out.out_ (.inl (by have := HN.out; omega)))
      have i1 : ¬ (k : Int) < (n : Int) := by omega
      clear h1
      go_wp2
      go_ret3
      exact ⟨RVE.none_ hfin.out, rfl⟩
end Go.Proofs.Ytknjnpmhbgeikaa.sr
