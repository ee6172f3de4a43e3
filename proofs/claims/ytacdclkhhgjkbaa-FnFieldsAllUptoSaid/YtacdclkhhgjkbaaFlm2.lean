/-
  What the reading of a []impl.Field argument gives: its fields lie in memory as they read, at whatever depth; and a single field's.
-/
import Derived.Test.YtacdclkhhgjkbaaFlm
namespace Go.Proofs.Ytacdclkhhgjkbaa.fm
open Go.RowKit Go.ChangeShapes Go.WideShapes Go.Deep
set_option linter.unusedVariables false

theorem cells41 : Try.prog.cellsOf 41 = 5 := by kernel_rfl

section
variable {H : Type} {enc : TypeId × Value → H} {W : World}

/-- The five readings of one field. -/
theorem parts_of {n : Nat} {x0 x1 x2 x3 x4 : Value} {d : DataW H} {p : List MemPlace} (h : DataW.trod enc Try.prog W 0 (fun _ => true) true n 41 [x0, x1, x2, x3, x4] = some (d, p)) :
    ∃ (A3 : Option Addr) (c3 : Nat) (y4 : DataW H × List MemPlace) (m : Nat), x0 = .int .i32 (pl.fNum d) ∧ x1 = .int .i8 (pl.fKind d) ∧ x2 = .int .u64 (pl.fV d) ∧ x3 = .slice A3 (pl.fData d).length c3 ∧
      (-2147483648 ≤ pl.fNum d ∧ pl.fNum d ≤ 2147483647) ∧ (-128 ≤ pl.fKind d ∧ pl.fKind d ≤ 127) ∧ pl.fV d < 18446744073709551616 ∧ mem.Rd W W.heap.size A3 (pl.fData d) ∧ (pl.fData d).length ≤ maxLen ∧
      DataW.trod enc Try.prog W 0 (fun _ => true) true m 22 [x4] = some y4 ∧ pl.fKids d = pl.elemsOf y4.1 := by
  obtain ⟨xs, m, _, hx, _, hl, hg⟩ := DataW.trod_struct Try.underlying41 h
  obtain ⟨y0, y1, y2, y3, y4, rfl⟩ : ∃ y0 y1 y2 y3 y4, xs = [y0, y1, y2, y3, y4] := by
    match xs, hl with
    | [y0, y1, y2, y3, y4], _ => exact ⟨y0, y1, y2, y3, y4, rfl⟩
  have c0 : Try.prog.cellsOf 21 = 1 := by kernel_rfl
  have c1 : Try.prog.cellsOf 38 = 1 := by kernel_rfl
  have c2 : Try.prog.cellsOf 36 = 1 := by kernel_rfl
  have c3 : Try.prog.cellsOf 25 = 1 := by kernel_rfl
  have c4 : Try.prog.cellsOf 22 = 1 := by kernel_rfl
  have q0 : DataW.trod enc Try.prog W 0 (fun _ => true) true m 21 [x0] = some y0 := by simpa [c0] using hg 0 _ rfl
  have q1 : DataW.trod enc Try.prog W 0 (fun _ => true) true m 38 [x1] = some y1 := by simpa [c1] using hg 1 _ rfl
  have q2 : DataW.trod enc Try.prog W 0 (fun _ => true) true m 36 [x2] = some y2 := by simpa [c2] using hg 2 _ rfl
  have q3 : DataW.trod enc Try.prog W 0 (fun _ => true) true m 25 [x3] = some y3 := by simpa [c3] using hg 3 _ rfl
  have q4 : DataW.trod enc Try.prog W 0 (fun _ => true) true m 22 [x4] = some y4 := by simpa [c4] using hg 4 _ rfl
  obtain ⟨a, e0, rfl, w0⟩ := DataW.trod_int Try.underlying21 q0
  obtain ⟨k, e1, rfl, w1⟩ := DataW.trod_int Try.underlying38 q1
  obtain ⟨z, e2, rfl, w2⟩ := DataW.trod_int Try.underlying36 q2
  simp only [Prod.mk.injEq, List.map_cons, List.map_nil] at hx
  obtain ⟨rfl, _⟩ := hx
  simp only [List.cons.injEq, and_true] at e0 e1 e2
  subst e0 e1 e2
  have b0 := bounds_i32 w0
  have b1 := bounds_i8 w1
  have b2 := bounds_u64 w2
  have s3 : ∃ (A3 : Option Addr) (c3 : Nat), x3 = .slice A3 ((pl.elemsOf y3.1).map fun x => (pl.numOf x).toNat).length c3 ∧ mem.Rd W W.heap.size A3 ((pl.elemsOf y3.1).map fun x => (pl.numOf x).toNat) ∧ ((pl.elemsOf y3.1).map fun x => (pl.numOf x).toNat).length ≤ maxLen := by
    rcases open_ints Try.underlying25 Try.underlying5 (by kernel_rfl) q3 with ⟨hv, rfl⟩ | ⟨x, l, c, zs, hv, _, hlc, hcm, hz, rfl, hcell, hwz⟩
    · exact ⟨none, 0, by simpa [pl.elemsOf] using hv, mem.Rd.nil_ _ _ _, by simp [pl.elemsOf]⟩
    · rw [elemsOf_lits]
      have hlen : ((zs.take l).map Int.toNat).length = l := by
        have : zs.length = c := by simpa using hz
        simp; omega
      refine ⟨some x, c, by rw [hlen]; simpa using hv, mem.rd_of_zs x l c zs hlc (by simpa using hz) hcell hwz, by rw [hlen]; omega⟩
  obtain ⟨A3, c3, rfl, hr, hm3⟩ := s3
  refine ⟨A3, c3, y4, m, rfl, rfl, ?_, rfl, b0, b1, ?_, hr, hm3, q4, rfl⟩
  · show Value.int .u64 z = .int .u64 ((z.toNat : Nat) : Int)
    rw [Int.toNat_of_nonneg (by omega)]
  · show z.toNat < _
    omega

theorem slice_of {n : Nat} {v : Value} {x : DataW H × List MemPlace} (h : DataW.trod enc Try.prog W 0 (fun _ => true) true n 22 [v] = some x) : ∃ A len cap, v = .slice A len cap := by
  rcases open_slice Try.underlying22 h with ⟨hv, _⟩ | ⟨a, len, cap, _, _, _, _, hv, _⟩
  · exact ⟨none, 0, 0, by simpa using hv⟩
  · exact ⟨some a, len, cap, by simpa using hv⟩

theorem Row.of {K : Option Addr → Nat → List (DataW H) → Prop} (hK : ∀ (n : Nat) (A : Option Addr) (len cap : Nat) (x : DataW H × List MemPlace), DataW.trod enc Try.prog W 0 (fun _ => true) true n 22 [.slice A len cap] = some x → K A len (pl.elemsOf x.1))
    {n : Nat} {v : Value} {x : DataW H × List MemPlace} (h : DataW.trod enc Try.prog W 0 (fun _ => true) true n 22 [v] = some x) :
    ∃ A len cap, v = .slice A len cap ∧ len ≤ cap ∧ cap ≤ maxLen ∧ Row W W.heap.size K A len (pl.elemsOf x.1) := by
  rcases open_slice Try.underlying22 h with ⟨hv, rfl⟩ | ⟨a, len, cap, m, n', D, Pl, hv, _, hl, hm, hmm, rfl, hi⟩
  · exact ⟨none, 0, 0, by simpa using hv, by simp, by simp [maxLen], rfl, by simp [maxLen], fun hp => absurd hp (by simp)⟩
  · refine ⟨some a, len, cap, by simpa using hv, hl, hm, by simp [pl.elemsOf], by omega, fun hpos => ?_⟩
    obtain rfl : m = cap := by simpa using hmm
    rw [cells41] at hi
    have each : ∀ i, i < m → ∃ x0 x1 x2 x3 x4, (∀ j, j < 5 → W.cell? (a.add (i * 5 + j)) = some ([x0, x1, x2, x3, x4].getD j default)) ∧ DataW.trod enc Try.prog W 0 (fun _ => true) true n' 41 [x0, x1, x2, x3, x4] = some (D i, Pl i) := by
      intro i hin
      obtain ⟨cs, hcs, ht⟩ := hi i hin
      obtain ⟨_, hlen, hat⟩ := World.cells?_some hcs
      obtain ⟨x0, x1, x2, x3, x4, rfl⟩ : ∃ x0 x1 x2 x3 x4, cs = [x0, x1, x2, x3, x4] := by
        match cs, hlen with
        | [x0, x1, x2, x3, x4], _ => exact ⟨x0, x1, x2, x3, x4, rfl⟩
      refine ⟨x0, x1, x2, x3, x4, fun j hj => ?_, ht⟩
      have := hat j hj
      rw [mem.add_of_add] at this
      rw [this, List.getD_eq_getElem?_getD, List.getElem?_eq_getElem (by simpa using hj)]
      rfl
    obtain ⟨b, off, spot⟩ := a
    obtain ⟨x0, x1, x2, x3, x4, hc0, _⟩ := each 0 (by omega)
    have h0 := hc0 0 (by omega)
    have hb := World.block_lt_of_cell? _ _ h0
    have hs : spot = none := by simpa [Addr.add] using World.cell?_spot h0
    subst hs
    rw [mem.block_of_add] at hb
    refine ⟨b, off, rfl, hb, fun i hin => ?_⟩
    obtain ⟨x0, x1, x2, x3, x4, hc, ht⟩ := each i (by omega)
    obtain ⟨A3, c3, y4, m', e0, e1, e2, e3, h0, h1, h2, hr, hm3, ht4, hkid⟩ := parts_of ht
    obtain ⟨A4, n4, c4, e4⟩ := slice_of ht4
    subst e4
    have hd : (pl.elemsOf (.slice ((List.range len).map D) ((List.range (m - len)).map fun j => D (len + j)) : DataW H)).getD i .nil = D i := by
      simp [pl.elemsOf, List.getD_eq_getElem?_getD, hin]
    rw [hd]
    refine ⟨A3, c3, A4, n4, c4, ?_, ?_, ?_, ?_, ?_, h0, h1, h2, hr, hm3, ?_⟩
    · have := hc 0 (by omega)
      rw [mem.add_none, Nat.add_zero] at this
      rw [this, ← e0]; rfl
    · have := hc 1 (by omega)
      rw [mem.add_none, ← Nat.add_assoc] at this
      rw [this, ← e1]; rfl
    · have := hc 2 (by omega)
      rw [mem.add_none, ← Nat.add_assoc] at this
      rw [this, ← e2]; rfl
    · have := hc 3 (by omega)
      rw [mem.add_none, ← Nat.add_assoc] at this
      rw [this, ← e3]; rfl
    · have := hc 4 (by omega)
      rw [mem.add_none, ← Nat.add_assoc] at this
      rw [this]; rfl
    · rw [hkid]
      exact hK m' A4 n4 c4 y4 ht4

/-- A reading gives the fields in memory. -/
theorem Fl.of (deep : Nat) : ∀ {n : Nat} {v : Value} {x : DataW H × List MemPlace}, DataW.trod enc Try.prog W 0 (fun _ => true) true n 22 [v] = some x →
    ∃ A len cap, v = .slice A len cap ∧ len ≤ cap ∧ cap ≤ maxLen ∧ Fl W W.heap.size deep A len (pl.elemsOf x.1) := by
  induction deep with
  | zero => exact fun h => Row.of (fun _ _ _ _ _ _ => trivial) h
  | succ deep ih =>
    exact fun h => Row.of (fun n A len cap x hx => by
      obtain ⟨A', len', cap', e, _, _, hf⟩ := ih hx
      simp only [Value.slice.injEq] at e
      obtain ⟨rfl, rfl, rfl⟩ := e
      exact hf) h

end
end Go.Proofs.Ytacdclkhhgjkbaa.fm
