/-
  Contracts of the functions that parse bytes, texts and tags.
-/
import Derived.Test.YtinlekencdfafaaCons2
namespace Go.Proofs.Ytinlekencdfafaa.co
open Go.RowKit
set_option linter.unusedVariables false

theorem info8 : (Try.prog.info? 5).map (fun i => (i.zero, i.size, i.bytes)) = some (some (.int .u8 0), 1, 1) := by kernel_rfl

/-- A slice into what was read, and a length. -/
def GotB (w : World) (B : Nat) (bs : List Nat) (n : Nat) (e : Ending) (w' : World) : Prop :=
  ∃ (A : Option Addr) (c : Nat), e = .returned (.tuple #[.slice A bs.length c, .int .i64 n]) ∧ w = w' ∧ mem.Rd w B A bs ∧ bs.length ≤ c ∧ c ≤ maxLen
/-- A nil slice, and a negative length. -/
def NegB (w : World) (e : Ending) (w' : World) : Prop := ∃ k : Int, e = .returned (.tuple #[.slice none 0 0, .int .i64 k]) ∧ w = w' ∧ k < 0 ∧ -10 ≤ k

theorem rbytes_none {bs : List Nat} (h : pl.rbytes bs = none) : pl.rv 10 bs = none ∨ ∃ x, pl.rv 10 bs = some x ∧ bs.length - x.2 < x.1 := by
  unfold pl.rbytes at h
  split at h
  · rename_i hx
    exact .inl hx
  · rename_i x hx
    split at h
    · rename_i hc
      exact .inr ⟨x, hx, hc⟩
    · cases h
theorem rbytes_some {bs : List Nat} {a e : Nat} (h : pl.rbytes bs = some (a, e)) : ∃ v, pl.rv 10 bs = some (v, a) ∧ v ≤ bs.length - a ∧ e = a + v := by
  unfold pl.rbytes at h
  split at h
  · cases h
  · rename_i x hx
    split at h
    · cases h
    · rename_i hc
      simp only [Option.some.injEq, Prod.mk.injEq] at h
      obtain ⟨rfl, rfl⟩ := h
      exact ⟨x.1, hx, by omega, rfl⟩

end Go.Proofs.Ytinlekencdfafaa.co
