/-
  Fields in memory: a slice of them, read at most so deep; it reads on as it did where memory below is kept; a reading of the argument gives it.
-/
import Derived.Test.YtacdclkhhgjkbaaMem
import Derived.Test.YtacdclkhhgjkbaaTree
import Derived.Test.YtacdclkhhgjkbaaArg
import Derived.Test.YtacdclkhhgjkbaaRows
import Derived.Deep.Slices
import Derived.Deep.Fields
import Derived.ChangeSame
import Derived.OpenShut
namespace Go.Proofs.Ytacdclkhhgjkbaa.fm
open Go.RowKit Go.ChangeShapes Go.WideShapes Go.Deep
set_option linter.unusedVariables false

section
variable {H : Type}

/-- Five cells that read as the field d; K: what is known of its kids. -/
def El (w : World) (B : Nat) (K : Option Addr → Nat → List (DataW H) → Prop) (b off : Nat) (d : DataW H) : Prop :=
  ∃ (A3 : Option Addr) (c3 : Nat) (A4 : Option Addr) (n4 c4 : Nat),
    w.cell? ⟨b, off, none⟩ = some (.int .i32 (pl.fNum d)) ∧ w.cell? ⟨b, off + 1, none⟩ = some (.int .i8 (pl.fKind d)) ∧ w.cell? ⟨b, off + 2, none⟩ = some (.int .u64 (pl.fV d)) ∧
    w.cell? ⟨b, off + 3, none⟩ = some (.slice A3 (pl.fData d).length c3) ∧ w.cell? ⟨b, off + 4, none⟩ = some (.slice A4 n4 c4) ∧
    (-2147483648 ≤ pl.fNum d ∧ pl.fNum d ≤ 2147483647) ∧ (-128 ≤ pl.fKind d ∧ pl.fKind d ≤ 127) ∧ pl.fV d < 18446744073709551616 ∧ mem.Rd w B A3 (pl.fData d) ∧ (pl.fData d).length ≤ maxLen ∧ K A4 n4 (pl.fKids d)

/-- A slice of n fields at A that read as l. -/
def Row (w : World) (B : Nat) (K : Option Addr → Nat → List (DataW H) → Prop) (A : Option Addr) (n : Nat) (l : List (DataW H)) : Prop :=
  l.length = n ∧ n ≤ maxLen ∧ (0 < n → ∃ b off, A = some ⟨b, off, none⟩ ∧ b < B ∧ ∀ i, i < n → El w B K b (off + i * 5) (l.getD i .nil))

/-- Fields, read at most so deep. -/
def Fl (w : World) (B : Nat) : Nat → Option Addr → Nat → List (DataW H) → Prop
  | 0 => Row w B (fun _ _ _ => True)
  | m + 1 => Row w B (Fl w B m)

theorem El.keep {w w' : World} {B B' : Nat} {K K' : Option Addr → Nat → List (DataW H) → Prop} {b off : Nat} {d : DataW H} (h : El w B K b off d) (hb : b < B) (hB : B ≤ B') (hk : ∀ p : Addr, p.block < B → w'.cell? p = w.cell? p) (hK : ∀ A n l, K A n l → K' A n l) :
    El w' B' K' b off d := by
  obtain ⟨A3, c3, A4, n4, c4, x0, x1, x2, x3, x4, h0, h1, h2, h3, h4, h5⟩ := h
  exact ⟨A3, c3, A4, n4, c4, (hk _ hb).trans x0, (hk _ hb).trans x1, (hk _ hb).trans x2, (hk _ hb).trans x3, (hk _ hb).trans x4, h0, h1, h2, (h3.keep hk).more hB, h4, hK _ _ _ h5⟩

theorem Row.keep {w w' : World} {B B' : Nat} {K K' : Option Addr → Nat → List (DataW H) → Prop} {A : Option Addr} {n : Nat} {l : List (DataW H)} (h : Row w B K A n l) (hB : B ≤ B') (hk : ∀ p : Addr, p.block < B → w'.cell? p = w.cell? p) (hK : ∀ A n l, K A n l → K' A n l) :
    Row w' B' K' A n l := by
  refine ⟨h.1, h.2.1, fun hn => ?_⟩
  obtain ⟨b, off, hA, hb, hi⟩ := h.2.2 hn
  exact ⟨b, off, hA, by omega, fun i hin => (hi i hin).keep hb hB hk hK⟩

theorem Fl.keep {w w' : World} {B B' : Nat} (hB : B ≤ B') (hk : ∀ p : Addr, p.block < B → w'.cell? p = w.cell? p) : ∀ (m : Nat) (A : Option Addr) (n : Nat) (l : List (DataW H)), Fl w B m A n l → Fl w' B' m A n l
  | 0, A, n, l, h => Row.keep h hB hk (fun _ _ _ x => x)
  | m + 1, A, n, l, h => Row.keep h hB hk (Fl.keep hB hk m)

theorem Fl.below {w w' : World} {B : Nat} {m : Nat} {A : Option Addr} {n : Nat} {l : List (DataW H)} (h : Fl w B m A n l) (hb : Below B w w') : Fl w' B m A n l := Fl.keep (Nat.le_refl _) (fun _ hp => hb.cell hp) m A n l h
theorem Fl.more {w : World} {B B' : Nat} {m : Nat} {A : Option Addr} {n : Nat} {l : List (DataW H)} (h : Fl w B m A n l) (hB : B ≤ B') : Fl w B' m A n l := Fl.keep hB (fun _ _ => rfl) m A n l h

/-- What is known of the kids. -/
def Kid (w : World) (B : Nat) (m : Nat) : Option Addr → Nat → List (DataW H) → Prop :=
  match m with
  | 0 => fun _ _ _ => True
  | m + 1 => Fl w B m
theorem Fl.row {w : World} {B : Nat} {m : Nat} {A : Option Addr} {n : Nat} {l : List (DataW H)} (h : Fl w B m A n l) : Row w B (Kid w B m) A n l := by
  cases m <;> exact h
theorem Row.fl {w : World} {B : Nat} {m : Nat} {A : Option Addr} {n : Nat} {l : List (DataW H)} (h : Row w B (Kid w B m) A n l) : Fl w B m A n l := by
  cases m <;> exact h
theorem Kid.keep {w w' : World} {B B' : Nat} (hB : B ≤ B') (hk : ∀ p : Addr, p.block < B → w'.cell? p = w.cell? p) (m : Nat) (A : Option Addr) (n : Nat) (l : List (DataW H)) (h : Kid w B m A n l) : Kid w' B' m A n l := by
  cases m with
  | zero => trivial
  | succ m => exact Fl.keep hB hk m A n l h

/-- The field at place i. -/
theorem Fl.at_ {w : World} {B : Nat} {m : Nat} {A : Option Addr} {n : Nat} {l : List (DataW H)} (h : Fl w B m A n l) {b off : Nat} (hA : A = some ⟨b, off, none⟩) {i : Nat} (hi : i < n) : b < B ∧ El w B (Kid w B m) b (off + i * 5) (l.getD i .nil) := by
  obtain ⟨b', off', hA', hb, he⟩ := h.row.2.2 (by omega)
  rw [hA] at hA'
  simp only [Option.some.injEq, Addr.mk.injEq] at hA'
  obtain ⟨rfl, rfl, _⟩ := hA'
  exact ⟨hb, he i hi⟩

theorem elemsOf_lits (k : IntKind) (zs : List Int) (rest : List (DataW H)) : (pl.elemsOf (.slice (lits k zs) rest : DataW H)).map (fun x => (pl.numOf x).toNat) = zs.map Int.toNat := by
  unfold lits pl.elemsOf
  rw [List.map_map]
  apply List.map_congr_left
  intro z _
  rfl

end
end Go.Proofs.Ytacdclkhhgjkbaa.fm
