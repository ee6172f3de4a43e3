/-
  The arguments of the laws over fields, opened, with what the bound of the 'Upto' statements says of them.
-/
import Derived.Test.YtacdclkhhgjkbaaFlm2
import Derived.Test.YtacdclkhhgjkbaaFlj
import Derived.ProofKit
import Derived.OpenShut
import Derived.ChangeOld
import Derived.Lib.SmallJoins
namespace Go.Proofs.Ytacdclkhhgjkbaa.fr
open Go.ChangeShapes Go.WideShapes Go.ChangeAt Go.RowKit Go.Deep
set_option linter.unusedVariables false

theorem own : ownKnob Try.prog.godebug = none := by kernel_rfl
theorem laidOut : laidOutB Try.prog = true := by kernel_rfl

section
variable {H : Type} {enc : TypeId × Value → H} {W : World} {base : Nat} {v : Value} {d : DataW H} {p : List MemPlace}

/-- What is known of a list of fields. -/
def List50 (w : World) (A : Option Addr) (n c : Nat) (l : List (DataW H)) : Prop := fm.Fl w w.heap.size 50 A n l ∧ n ≤ c ∧ c ≤ maxLen ∧ n ≤ 1048576 ∧ (pl.fieldsB 50 l).length ≤ 41943040 ∧ pl.sane 50 l
/-- What is known of bytes. -/
def Bytes1 (w : World) (A : Option Addr) (n c : Nat) (bs : List Nat) : Prop := mem.Rd w w.heap.size A bs ∧ bs.length = n ∧ n ≤ c ∧ c ≤ maxLen ∧ n ≤ 1048576
/-- What is known of a field by value. -/
def Field50 (w : World) (a k z : Int) (A3 : Option Addr) (n3 : Nat) (A4 : Option Addr) (n4 : Nat) (d : DataW H) : Prop :=
  a = pl.fNum d ∧ k = pl.fKind d ∧ z = ((pl.fV d : Nat) : Int) ∧ n3 = (pl.fData d).length ∧ (-2147483648 ≤ a ∧ a ≤ 2147483647) ∧ (-128 ≤ k ∧ k ≤ 127) ∧ pl.fV d < 18446744073709551616 ∧ mem.Rd w w.heap.size A3 (pl.fData d) ∧
    fm.Fl w w.heap.size 49 A4 n4 (pl.fKids d) ∧ n3 ≤ 1048576 ∧ n4 ≤ 1048576 ∧ (pl.fieldsB 50 [d]).length ≤ 41943040 ∧ (pl.fieldsB 49 (pl.fKids d)).length ≤ 41943040

theorem open_list (hv : Value.okWide Try.prog W .any base 22 v) (h : DataW.Trod enc Try.prog W 0 (fun _ => true) true 22 v d p) (hb : Rows.uptoBulk d ≤ 1048576) : ∃ A n c, v = .slice A n c ∧ List50 W A n c (pl.elemsOf d) := by
  obtain ⟨a, len, cap, rfl⟩ := okWide_slice Try.underlying22 hv
  obtain ⟨fuel, hf⟩ := h
  obtain ⟨A, n, c, e, h1, h2, h3⟩ := fm.Fl.of 50 (show DataW.trod enc Try.prog W 0 (fun _ => true) true fuel 22 [.slice a len cap] = some (d, p) from hf)
  have hl : (pl.elemsOf d).length = n := h3.row.1
  have b1 := pl.bulk_elems d
  have b2 := pl.bulk_len (pl.elemsOf d)
  have b3 := pl.fieldsB_bulk 50 (pl.elemsOf d)
  exact ⟨A, n, c, e, h3, h1, h2, by omega, by omega, fm.Fl.sane 50 h3⟩

theorem open_bytes (hv : Value.okWide Try.prog W .any base 25 v) (h : DataW.Trod enc Try.prog W 0 (fun _ => true) true 25 v d p) (hb : Rows.uptoBulk d ≤ 1048576) : ∃ A n c bs, v = .slice A n c ∧ Bytes1 W A n c bs := by
  obtain ⟨a, len, cap, rfl⟩ := okWide_slice Try.underlying25 hv
  obtain ⟨fuel, hf⟩ := h
  have b1 := pl.bulk_elems d
  have b2 := pl.bulk_len (pl.elemsOf d)
  rcases open_ints Try.underlying25 Try.underlying5 (by kernel_rfl) hf with ⟨hcs, _⟩ | ⟨x, l, c, zs, hcs, _, hl, hm, hz, hx, hcell, hwz⟩
  · simp [Value.cells] at hcs
    obtain ⟨rfl, rfl, rfl⟩ := hcs
    exact ⟨none, 0, 0, [], rfl, mem.Rd.nil_ _ _ _, rfl, by simp, by simp [maxLen], by simp⟩
  · simp [Value.cells] at hcs
    obtain ⟨rfl, rfl, rfl⟩ := hcs
    have hz' : zs.length = cap := by simpa using hz
    simp only [Prod.mk.injEq] at hx
    have hlen : (pl.elemsOf d).length = len := by
      rw [hx.1]
      simp [pl.elemsOf, lits]
      omega
    exact ⟨some x, len, cap, _, rfl, mem.rd_of_zs x len cap zs hl hz' hcell hwz, by simp; omega, hl, hm, by omega⟩

theorem open_field (hv : Value.okWide Try.prog W .any base 41 v) (h : DataW.Trod enc Try.prog W 0 (fun _ => true) true 41 v d p) (hb : Rows.uptoBulk d ≤ 1048576) :
    ∃ a k z A3 n3 c3 A4 n4 c4, v = .agg #[.int .i32 a, .int .i8 k, .int .u64 z, .slice A3 n3 c3, .slice A4 n4 c4] ∧ Field50 W a k z A3 n3 A4 n4 d := by
  obtain ⟨cs, rfl, hsz⟩ := okWide_struct Try.underlying41 hv
  obtain ⟨l⟩ := cs
  have hlen : l.length = 5 := by simpa using hsz.trans fm.cells41
  obtain ⟨x0, x1, x2, x3, x4, rfl⟩ : ∃ x0 x1 x2 x3 x4, l = [x0, x1, x2, x3, x4] := by
    match l, hlen with
    | [x0, x1, x2, x3, x4], _ => exact ⟨x0, x1, x2, x3, x4, rfl⟩
  obtain ⟨fuel, hf⟩ := h
  obtain ⟨A3, c3, y4, m, e0, e1, e2, e3, h0, h1, h2, hr, hm3, ht4, hkid⟩ := fm.parts_of (show DataW.trod enc Try.prog W 0 (fun _ => true) true fuel 41 [x0, x1, x2, x3, x4] = some (d, p) from hf)
  obtain ⟨A4, n4, c4, e4, _, _, hfl⟩ := fm.Fl.of 49 ht4
  subst e0 e1 e2 e3 e4
  rw [← hkid] at hfl
  have hl := hfl.row.1
  have b1 := pl.bulk_data d
  have b2 := pl.bulk_kids d
  have b3 := pl.bulk_len (pl.fKids d)
  have b4 := pl.fieldsB_bulk 50 [d]
  have b5 := pl.fieldsB_bulk 49 (pl.fKids d)
  simp only [Rows.uptoBulkAll] at b4
  exact ⟨_, _, _, A3, _, c3, A4, n4, c4, rfl, rfl, rfl, rfl, rfl, h0, h1, h2, hr, hfl, by omega, by omega, by omega, by omega⟩
end
end Go.Proofs.Ytacdclkhhgjkbaa.fr
