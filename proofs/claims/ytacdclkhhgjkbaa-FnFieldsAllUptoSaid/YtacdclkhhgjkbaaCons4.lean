/-
  Contracts of the thin package's parsing functions, and of ConsumeTag, ConsumeString.
-/
import Derived.Test.YtacdclkhhgjkbaaCons3
namespace Go.Proofs.Ytacdclkhhgjkbaa.co
open Go.RowKit
set_option linter.unusedVariables false


/-- A copy of bytes, and a length. -/
def GotCopy (w : World) (bs : List Nat) (n : Int) (e : Ending) (w' : World) : Prop :=
  ∃ v', e = .returned (.tuple #[v', .int .i64 n]) ∧ mem.Own w' w.heap.size 5 v' bs ∧ Below w.heap.size w w'
/-- No tag: 0, 0 and a negative length. -/
def NegT (w : World) (e : Ending) (w' : World) : Prop := ∃ k : Int, e = .returned (.tuple #[.int .i32 0, .int .i8 0, .int .i64 k]) ∧ w = w' ∧ k < 0 ∧ -10 ≤ k
theorem wct_yes (A : Option Addr) (n c : Nat) (bs : List Nat) (B : Nat) (w : World) (a k m : Nat) (hr : mem.Rd w B A bs) (hn : n = bs.length) (hm : n ≤ 9223372036854775807) (h : pl.rtag bs = some (a, k, m)) :
    Calls Try.prog 37 #[.slice A n c] w fun e w' => e = .returned (.tuple #[.int .i32 (a : Nat), .int .i8 (k : Nat), .int .i64 (m : Nat)]) ∧ w = w' := by
  obtain ⟨v, hv, ha, hk, h1, h2⟩ := pl.rtag_some h
  have hl := pl.rtag_len h
  have hlt := pl.rv10_lt bs v m hr.1 hv
  have K := bt.hide (wcv_yes A n c bs B w (v, m) hr hn hm hv)
  have K2 := bt.hide (fun (W : World) => pu.wdtag (v : Int) W (by omega) (by omega) (by omega))
  have ea := bt.hide (show (v : Int) / 8 = (a : Int) by omega)
  have ek := bt.hide (show (v : Int) % 8 = (k : Int) by omega)
  clear hv hr h hn ha hk hlt
  go_enter Try.func37, Try.ntmps37
  go_wp2_with fail
  refine (K.out).mono ?_
  rintro e w1 ⟨rfl, rfl⟩
  go_wp2_with fail
  refine (K2.out _).mono ?_
  rintro e w2 ⟨rfl, rfl⟩
  rw [ea.out, ek.out]
  go_wp2_with fail
  go_ret3
  exact ⟨rfl, rfl⟩
theorem rtag_none {bs : List Nat} (h : pl.rtag bs = none) : pl.rv 10 bs = none ∨ ∃ x, pl.rv 10 bs = some x ∧ (x.1 / 8 < 1 ∨ 2147483647 < x.1 / 8) := by
  unfold pl.rtag at h
  split at h
  · rename_i hx
    exact .inl hx
  · rename_i x hx
    split at h
    · rename_i hc
      exact .inr ⟨x, hx, hc⟩
    · cases h
theorem wct_no (A : Option Addr) (n c : Nat) (bs : List Nat) (B : Nat) (w : World) (hr : mem.Rd w B A bs) (hn : n = bs.length) (hm : n ≤ 9223372036854775807) (h : pl.rtag bs = none) :
    Calls Try.prog 37 #[.slice A n c] w (NegT w) := by
  rcases rtag_none h with h1 | ⟨⟨v, m⟩, hv, hc⟩
  · have K := bt.hide (wcv_no A n c bs B w hr hn hm h1)
    clear hr h hn h1
    go_enter Try.func37, Try.ntmps37
    go_wp2_with fail
    refine (K.out).mono ?_
    rintro e w1 ⟨k, rfl, rfl, hk1, hk2⟩
    go_wp2_with fail
    go_ret3
    exact ⟨k, rfl, rfl, hk1, hk2⟩
  · have hl := pl.rv_some_len 10 bs v m hv
    have hlt := pl.rv10_lt bs v m hr.1 hv
    have K := bt.hide (wcv_yes A n c bs B w (v, m) hr hn hm hv)
    simp only at hc
    rcases hc with hc | hc
    · have K2 := bt.hide (fun (W : World) => pu.wdtag (v : Int) W (by omega) (by omega) (by omega))
      have h8 : (v : Int) / 8 < 1 := by omega
      clear hv hr h hn hlt hc
      go_enter Try.func37, Try.ntmps37
      go_wp2_with fail
      refine (K.out).mono ?_
      rintro e w1 ⟨rfl, rfl⟩
      go_wp2_with fail
      refine (K2.out _).mono ?_
      rintro e w2 ⟨rfl, rfl⟩
      go_wp2_with fail
      go_ret3
      exact ⟨-2, rfl, rfl, by decide, by decide⟩
    · have K2 := bt.hide (fun (W : World) => pu.wdtag_no (v : Int) W (by omega) (by omega) (by omega))
      clear hv hr h hn hlt hc
      go_enter Try.func37, Try.ntmps37
      go_wp2_with fail
      refine (K.out).mono ?_
      rintro e w1 ⟨rfl, rfl⟩
      go_wp2_with fail
      refine (K2.out _).mono ?_
      rintro e w2 ⟨rfl, rfl⟩
      go_wp2_with fail
      go_ret3
      exact ⟨-2, rfl, rfl, by decide, by decide⟩
end Go.Proofs.Ytacdclkhhgjkbaa.co
