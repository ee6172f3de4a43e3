/-
  The walk of laws.FnFieldGroup.
-/
import Derived.Test.YtacdclkhhgjkbaaFrm
import Derived.Test.YtacdclkhhgjkbaaFldg
import Derived.ProofKit
namespace Go.Proofs.Ytacdclkhhgjkbaa.fnFieldGroupUpto
open Go.RowKit
set_option linter.unusedVariables false

/-- The field, as a group. -/
def asGroup {H : Type} (d : DataW H) : DataW H := .agg [pl.partOf d 0, .lit (.int .i8 3), pl.partOf d 2, pl.partOf d 3, pl.partOf d 4]
theorem asGroup_bytes {H : Type} (d : DataW H) : (pl.fieldsB 50 [asGroup d]).length ≤ 20 + (pl.fieldsB 49 (pl.fKids d)).length := by
  rw [pl.fieldsB_one]
  have e : pl.valB (pl.below H 50) (asGroup d) = pl.fieldsB 49 (pl.fKids d) ++ pl.enc (pl.tagN (pl.fNum d) 4) := rfl
  have h1 := pl.enc_len_le (pl.tagN (pl.fNum (asGroup d)) (pl.fKind (asGroup d)))
  have h2 := pl.enc_len_le (pl.tagN (pl.fNum d) 4)
  rw [e, List.length_append, List.length_append]
  omega

/-- The field in a row of its own, wherever memory is below as it was. -/
theorem row {H : Type} {a k z : Int} {A3 : Option Addr} {n3 c3 : Nat} {A4 : Option Addr} {n4 c4 : Nat} {d : DataW H} {w W : World} (hd : fr.Field50 w a k z A3 n3 A4 n4 d) (hb : Below w.heap.size w W) {g : Nat} {t : TypeId}
    (hg : W.heap[g]? = some (.cells #[.int .i32 a, .int .i8 3, .int .u64 z, .slice A3 n3 c3, .slice A4 n4 c4] t (0, 0))) : fm.Fl W W.heap.size 50 (some ⟨g, 0, none⟩) 1 [asGroup d] := by
  obtain ⟨e0, e1, e2, e3, h0, h1, h2, hr, hf, hn3, _⟩ := hd
  exact fm.Fl.single (m := 50) (d := asGroup d) hg e0 rfl e2 e3 h0 (by decide) h2 ((hr.below hb).more hb.size) (by simp only [maxLen]; omega) ((hf.below hb).more hb.size)

set_option maxRecDepth 100000 in
set_option maxHeartbeats 1000000 in
theorem walk {H : Type} (a k z : Int) (A3 : Option Addr) (n3 c3 : Nat) (A4 : Option Addr) (n4 c4 : Nat) (d : DataW H) (m : Int) (w : World) (hd : fr.Field50 w a k z A3 n3 A4 n4 d) (hm : -9223372036854775808 ≤ m ∧ m ≤ 9223372036854775807) :
    Calls Try.prog 11 #[.agg #[.int .i32 a, .int .i8 k, .int .u64 z, .slice A3 n3 c3, .slice A4 n4 c4], .int .i64 m] w (fo.Says w true) := by
  obtain ⟨hm0, hm1⟩ := hm
  have HD := bt.hide hd
  have KZ := bt.hide (fun (W : World) => fl.zz k a z A3 n3 c3 A4 n4 c4 W (by have := hd.2.2.2.2.2.2.2.2.2.1; omega) (by have := hd.2.2.2.2.2.2.2.2.2.2.1; omega))
  clear hd
  go_enter Try.func11, Try.ntmps11
  go_wp2_with fail
  refine (KZ.out _).mono ?_
  rintro e w1 ⟨rfl, hb1⟩
  have hrow1 := (hb1.block w.heap.size (by simp)).trans (heap_alloc_new w _)
  have HB1 := bt.hide (((Below.refl w.heap.size w).alloc (Nat.le_refl _) _).trans (hb1.mono (by simp)))
  obtain ⟨y0, y1, y2, y3, y4⟩ := fl.five hrow1
  have hfz := frozen_of_row _ _ 1 _ _ hrow1
  have hrow2 := heap_setCell_same w1 w.heap.size 1 _ _ (.int .i8 3) hrow1
  have HROW2 := bt.hide hrow2
  have hp1 := (Array.getElem?_eq_some_iff.1 hrow1).1
  clear hb1 hrow1 hrow2
  go_wp2_with fail
  clear y0 y1 y2 y3 y4 hfz
  have hs2 : (w1.setCell ⟨w.heap.size, 1, none⟩ (.int .i8 3)).heap.size = w1.heap.size := by simp
  have HB2 := bt.hide (HB1.out.setCell (p := ⟨w.heap.size, 1, none⟩) (Nat.le_refl _) (.int .i8 3))
  rw [← hs2]
  rw [← hs2] at hp1
  generalize w1.setCell ⟨w.heap.size, 1, none⟩ (.int .i8 3) = w2 at *
  clear hs2
  have hsz2 : w.heap.size ≤ w2.heap.size := by omega
  have HB2a := bt.hide (HB2.out.alloc hsz2 (Obj.cells #[.int .i32 a, .int .i8 3, .int .u64 z, .slice A3 n3 c3, .slice A4 n4 c4] 41 (0, 0)))
  have HF2 := bt.hide (row HD.out HB2a.out (heap_alloc_new w2 _))
  have HS := bt.hide (fm.Fl.sane 50 HF2.out)
  refine (fo.fok _ 50 [asGroup d] _ 1 1 _ (by decide) HF2.out (Nat.le_refl _)).mono ?_
  rintro e w3 ⟨rfl, hb3⟩
  have hrow3 := ((hb3.block w.heap.size (by simp; omega)).trans (((Below.refl w2.heap.size w2).alloc (Nat.le_refl _) _).block w.heap.size hp1)).trans HROW2.out
  have HB3 := bt.hide (HB2a.out.trans (hb3.mono (by simp; omega)))
  have hsz3 : w.heap.size < w3.heap.size := (Array.getElem?_eq_some_iff.1 hrow3).1
  have HROW3 := bt.hide hrow3
  clear hb3 HF2 HB2a
  rcases hok : pl.fieldsOk 50 [asGroup d] with _ | _
  · clear hrow3
    go_wp2_with fail
    go_ret
    exact ⟨rfl, HB3.out⟩
  have HOK := bt.hide hok
  have HFW := bt.hide (va.F_written 50 (asGroup d) [] hok HS.out (by decide))
  have HFC := bt.hide (fun q => va.F_cut3 49 (asGroup d) q hok HS.out (by decide) rfl)
  have hbig : (pl.fieldsB 50 [asGroup d]).length ≤ 41943060 := by
    have h1 := asGroup_bytes d
    have h2 := HD.out.2.2.2.2.2.2.2.2.2.2.2.2
    omega
  obtain ⟨-, g1, g2, gk, -⟩ := pl.ok_parts hok
  have hak : a = pl.fNum (asGroup d) := HD.out.1
  have HN := bt.hide (show ((pl.fNum (asGroup d)).toNat : Int) = a by omega)
  obtain ⟨y0, y1, y2, y3, y4⟩ := fl.five hrow3
  clear hok hrow3 g1 g2 gk hak
  go_wp2_with fail
  clear y0 y1 y2 y3 y4
  have HB3a := bt.hide (HB3.out.alloc (Nat.le_of_lt hsz3) (Obj.cells #[.int .i32 a, .int .i8 3, .int .u64 z, .slice A3 n3 c3, .slice A4 n4 c4] 41 (0, 0)))
  have HF3 := bt.hide (row HD.out HB3a.out (heap_alloc_new w3 _))
  refine (fw.flds _ 50 [asGroup d] _ 1 1 _ HF3.out (Nat.le_refl _) HOK.out (by omega)).mono ?_
  rintro e w4 ⟨v4, rfl, hown4, hb4⟩
  have hrow4 := ((hb4.block w.heap.size (by simp; omega)).trans (((Below.refl w3.heap.size w3).alloc (Nat.le_refl _) _).block w.heap.size hsz3)).trans HROW3.out
  have HB4 := bt.hide (HB3a.out.trans (hb4.mono (by simp; omega)))
  have HROW4 := bt.hide hrow4
  have hsz4 : w.heap.size < w4.heap.size := (Array.getElem?_eq_some_iff.1 hrow4).1
  have HFC2 : Hid (∀ q, q < (pl.fieldsB 50 [asGroup d]).length → va.F ((pl.fieldsB 50 [asGroup d]).take q) = none) := HFC
  clear HFC
  generalize pl.fieldsB 50 [asGroup d] = N at *
  obtain ⟨A, c, rfl, hc, hmx, hr, _⟩ := hown4.form
  have K1 := va.icfl A _ c N w4 hr rfl hc hmx
  have hFW := HFW.out
  rw [List.append_nil] at hFW
  rw [hFW] at K1
  have K1 := bt.hide K1
  have HR := bt.hide hr
  clear hr hown4 hb4 hrow4 hFW HF3 HB3a
  go_wp2_with fail
  refine (K1.out).mono ?_
  rintro e w5 ⟨x, y, n, rfl, hb5, rfl, rfl, rfl⟩
  have hrow5 := (hb5.block w.heap.size hsz4).trans HROW4.out
  have HB5 := bt.hide (HB4.out.trans (hb5.mono (by omega)))
  have hsz5 : w.heap.size ≤ w5.heap.size := Nat.le_of_lt (Array.getElem?_eq_some_iff.1 hrow5).1
  have HR5 := bt.hide ((HR.out.below hb5).more hb5.size)
  obtain ⟨y0, y1, y2, y3, y4⟩ := fl.five hrow5
  clear hb5 hrow5
  dsimp only
  rw [HN.out, show ((pl.fKind (asGroup d)).toNat : Int) = 3 from rfl]
  by_cases hm0' : m < 0
  · have hd : decide (m < 0) = true := by simpa using hm0'
    go_wp2_with fail
    go_ret
    exact ⟨rfl, HB5.out⟩
  have hd : decide (m < 0) = false := by simpa using hm0'
  obtain ⟨q, rfl⟩ := Int.eq_ofNat_of_zero_le (show 0 ≤ m by omega)
  by_cases hq : N.length ≤ q
  · have hd2 : decide ((N.length : Int) ≤ (q : Int)) = true := by simpa using hq
    go_wp2_with fail
    go_ret
    exact ⟨rfl, HB5.out⟩
  have hd2 : decide ((N.length : Int) ≤ (q : Int)) = false := by simpa using hq
  obtain ⟨i0, hi, hz0, hz1, hz2⟩ := info_parts ap.info8
  have H0 := bt.hide hz0
  have H1 := bt.hide hz1
  have H2 := bt.hide hz2
  have HI := bt.hide hi
  have s1 := fun (W : World) => mem.run_upto (w := W) (A := A) (n := N.length) (c := c) Try.underlying25 HI.out H1.out q (by omega) .i64
  have HRq := bt.hide (HR5.out.take q)
  have hFq := HFC2.out q (by omega)
  have hlq : (N.take q).length = q := by rw [List.length_take]; omega
  generalize N.take q = M at *
  have HFq := bt.hide hFq
  have HLq := bt.hide hlq
  clear hz0 hz1 hz2 hi hFq hlq
  go_wp2_with (at_builtin; refine mem.wpList_append_bytes _ rfl _ _ 25 rfl w.heap.size 5 i0 Try.underlying25 HI.out H0.out H1.out H2.out _ [] rfl (mem.Own.empty w5 _ _ hsz5) w5.heap.size A q c M rfl HLq.out.symm ?c2 ?c3 ?c4 ?_)
  case c2 => exact HRq.out.below ((Below.refl _ _).alloc (Nat.le_refl _) _)
  case c3 => first | omega | (simp; omega)
  case c4 => first | omega | (simp; omega)
  intro v6 w6 hown6 hbel6
  try simp only [List.nil_append] at hown6
  obtain ⟨A6, c6, rfl, hc6, hm6, hr6, _⟩ := hown6.form
  have HB6 := bt.hide (HB5.out.trans (((Below.refl w.heap.size w5).alloc hsz5 _).trans hbel6))
  have hsz6 : w.heap.size ≤ w6.heap.size := HB6.out.size
  have K2 := va.icfl A6 _ c6 M w6 hr6 rfl hc6 hm6
  rw [HFq.out] at K2
  have K2 := bt.hide K2
  clear hown6 hbel6 hr6
  go_wp2_with fail
  refine (K2.out).mono ?_
  rintro e w7 ⟨x, y, n, rfl, hb7, hn⟩
  have hn0 : n < 0 := hn
  have HB7 := bt.hide (HB6.out.trans (hb7.mono hsz6))
  clear hb7 hn
  go_wp2_with fail
  go_ret
  exact ⟨by simp, HB7.out⟩
end Go.Proofs.Ytacdclkhhgjkbaa.fnFieldGroupUpto
