/-
  Contracts of the functions that parse bytes, texts and tags.
-/
import Derived.Test.YtacdclkhhgjkbaaCons2
namespace Go.Proofs.Ytacdclkhhgjkbaa.co
open Go.RowKit
set_option linter.unusedVariables false

theorem info8 : (Try.prog.info? 5).map (fun i => (i.zero, i.size, i.bytes)) = some (some (.int .u8 0), 1, 1) := by kernel_rfl

/-- A slice into what was read, and a length. -/
def GotB (w : World) (B : Nat) (bs : List Nat) (n : Nat) (e : Ending) (w' : World) : Prop :=
  ∃ (A : Option Addr) (c : Nat), e = .returned (.tuple #[.slice A bs.length c, .int .i64 n]) ∧ w = w' ∧ mem.Rd w B A bs ∧ bs.length ≤ c ∧ c ≤ maxLen
/-- A nil slice, and a negative length. -/
def NegB (w : World) (e : Ending) (w' : World) : Prop := ∃ k : Int, e = .returned (.tuple #[.slice none 0 0, .int .i64 k]) ∧ w = w' ∧ k < 0 ∧ -10 ≤ k

theorem rbytes_none {bs : List Nat} (h : pl.rbytes bs = none) : pl.rv 10 bs = none ∨ ∃ x, pl.rv 10 bs = some x ∧ bs.length - x.2 < x.1 := by
  unfold pl.rbytes at h
  split at h
  · rename_i hx
    exact .inl hx
  · rename_i x hx
    split at h
    · rename_i hc
      exact .inr ⟨x, hx, hc⟩
    · cases h
theorem rbytes_some {bs : List Nat} {a e : Nat} (h : pl.rbytes bs = some (a, e)) : ∃ v, pl.rv 10 bs = some (v, a) ∧ v ≤ bs.length - a ∧ e = a + v := by
  unfold pl.rbytes at h
  split at h
  · cases h
  · rename_i x hx
    split at h
    · cases h
    · rename_i hc
      simp only [Option.some.injEq, Prod.mk.injEq] at h
      obtain ⟨rfl, rfl⟩ := h
      exact ⟨x.1, hx, by omega, rfl⟩

theorem wcb_yes (A : Option Addr) (n c : Nat) (bs : List Nat) (B : Nat) (w : World) (a e : Nat) (hr : mem.Rd w B A bs) (hn : n = bs.length) (hc : n ≤ c) (hm : c ≤ maxLen) (h : pl.rbytes bs = some (a, e)) :
    Calls Try.prog 43 #[.slice A n c] w (GotB w B ((bs.drop a).take (e - a)) e) := by
  obtain ⟨v, hv, hle, he⟩ := rbytes_some h
  have hlen := pl.rv_some_len 10 bs v a hv
  have hm' := hm
  simp only [maxLen] at hm'
  obtain ⟨i0, hi, hz0, hz1, hz2⟩ := info_parts info8
  have ha : a ≤ n := by omega
  have hva : v ≤ n - a := by omega
  have hac : n - a ≤ c - a := by omega
  have s1 := fun (W : World) => mem.run_cut (w := W) (A := A) (n := n) (c := c) Try.underlying25 hi hz1 a ha .i64
  have s2 := fun (W : World) => mem.run_upto (w := W) (A := mem.cutA A c a) (n := n - a) (c := c - a) Try.underlying25 hi hz1 v (by omega) .u64
  have K := bt.hide (wcv_yes A n c bs B w (v, a) hr hn (by omega) hv)
  have hl : ((bs.drop a).take (e - a)).length = v := by simp; omega
  have HR := bt.hide ((hr.cut a c (by omega)).take (e - a))
  have HL := bt.hide hl
  have HE := bt.hide he
  have hnot : ¬ ((n - a : Nat) : Int) < (v : Int) := by omega
  have hnm : n - a ≤ 9223372036854775807 := by omega
  clear hi hz0 hz1 hz2 hr hn h hv hl he hlen hm
  go_enter Try.func43, Try.ntmps43
  go_wp2_with fail
  refine (K.out).mono ?_
  rintro e1 w1 ⟨rfl, rfl⟩
  go_wp2_with fail
  go_ret2
  exact ⟨mem.cutA A c a, c - a, by rw [HL.out, HE.out]; simp, rfl, HR.out, by rw [HL.out]; omega, by simp only [maxLen]; omega⟩
theorem wcb_no (A : Option Addr) (n c : Nat) (bs : List Nat) (B : Nat) (w : World) (hr : mem.Rd w B A bs) (hn : n = bs.length) (hc : n ≤ c) (hm : c ≤ maxLen) (h : pl.rbytes bs = none) :
    Calls Try.prog 43 #[.slice A n c] w (NegB w) := by
  have hm' := hm
  simp only [maxLen] at hm'
  rcases rbytes_none h with h1 | ⟨⟨v, a⟩, hv, hlt⟩
  · have K := bt.hide (wcv_no A n c bs B w hr hn (by omega) h1)
    clear h h1 hr hn hm
    go_enter Try.func43, Try.ntmps43
    go_wp2_with fail
    refine (K.out).mono ?_
    rintro e1 w1 ⟨k, rfl, rfl, h1, h2⟩
    go_wp2_with fail
    go_ret2
    exact ⟨k, rfl, rfl, h1, h2⟩
  · have hlen := pl.rv_some_len 10 bs v a hv
    have hvlt := pl.rv10_lt bs v a hr.1 hv
    obtain ⟨i0, hi, hz0, hz1, hz2⟩ := info_parts info8
    simp only at hlt
    have ha : a ≤ n := by omega
    have s1 := fun (W : World) => mem.run_cut (w := W) (A := A) (n := n) (c := c) Try.underlying25 hi hz1 a ha .i64
    have K := bt.hide (wcv_yes A n c bs B w (v, a) hr hn (by omega) hv)
    have hnot : ((n - a : Nat) : Int) < (v : Int) := by omega
    have hnm : n - a ≤ 9223372036854775807 := by omega
    clear hi hz0 hz1 hz2 hr hn h hv hlen hm hlt hvlt
    go_enter Try.func43, Try.ntmps43
    go_wp2_with fail
    refine (K.out).mono ?_
    rintro e1 w1 ⟨rfl, rfl⟩
    go_wp2_with fail
    go_ret2
    exact ⟨-1, rfl, rfl, by decide, by decide⟩
end Go.Proofs.Ytacdclkhhgjkbaa.co
