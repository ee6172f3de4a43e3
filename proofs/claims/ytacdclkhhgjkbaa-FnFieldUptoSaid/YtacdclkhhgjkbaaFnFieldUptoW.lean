/-
  The walk of laws.FnField.
-/
import Derived.Test.YtacdclkhhgjkbaaFrm
import Derived.Test.YtacdclkhhgjkbaaFldg
import Derived.ProofKit
namespace Go.Proofs.Ytacdclkhhgjkbaa.fnFieldUpto
open Go.RowKit
set_option linter.unusedVariables false

/-- The field in a row of its own, wherever memory is below as it was. -/
theorem row {H : Type} {a k z : Int} {A3 : Option Addr} {n3 c3 : Nat} {A4 : Option Addr} {n4 c4 : Nat} {d : DataW H} {w W : World} (hd : fr.Field50 w a k z A3 n3 A4 n4 d) (hb : Below w.heap.size w W) {g : Nat} {t : TypeId}
    (hg : W.heap[g]? = some (.cells #[.int .i32 a, .int .i8 k, .int .u64 z, .slice A3 n3 c3, .slice A4 n4 c4] t (0, 0))) : fm.Fl W W.heap.size 50 (some ⟨g, 0, none⟩) 1 [d] := by
  obtain ⟨e0, e1, e2, e3, h0, h1, h2, hr, hf, hn3, _⟩ := hd
  exact fm.Fl.single (m := 50) hg e0 e1 e2 e3 h0 h1 h2 ((hr.below hb).more hb.size) (by simp only [maxLen]; omega) ((hf.below hb).more hb.size)

set_option maxRecDepth 100000 in
set_option maxHeartbeats 1000000 in
theorem walk {H : Type} (a k z : Int) (A3 : Option Addr) (n3 c3 : Nat) (A4 : Option Addr) (n4 c4 : Nat) (d : DataW H) (A : Option Addr) (n c : Nat) (ds : List Nat) (w : World) (hd : fr.Field50 w a k z A3 n3 A4 n4 d) (hm : fr.Bytes1 w A n c ds) :
    Calls Try.prog 7 #[.agg #[.int .i32 a, .int .i8 k, .int .u64 z, .slice A3 n3 c3, .slice A4 n4 c4], .slice A n c] w (fo.Says w true) := by
  obtain ⟨hrd, hrl, -, -, hn1⟩ := hm
  have HD := bt.hide hd
  have HM := bt.hide hrd
  have HLM := bt.hide hrl
  have hni1 : (n : Int) ≤ 1048576 := by omega
  have KZ := bt.hide (fun (W : World) => fl.zz k a z A3 n3 c3 A4 n4 c4 W (by have := hd.2.2.2.2.2.2.2.2.2.1; omega) (by have := hd.2.2.2.2.2.2.2.2.2.2.1; omega))
  clear hd hrd hrl hn1
  go_enter Try.func7, Try.ntmps7
  go_wp2_with fail
  refine (KZ.out _).mono ?_
  rintro e w1 ⟨rfl, hb1⟩
  have hrow1 := (hb1.block w.heap.size (by simp)).trans (heap_alloc_new w _)
  have HB1 := bt.hide (((Below.refl w.heap.size w).alloc (Nat.le_refl _) _).trans (hb1.mono (by simp)))
  obtain ⟨y0, y1, y2, y3, y4⟩ := fl.five hrow1
  have HROW1 := bt.hide hrow1
  have hp1 := (Array.getElem?_eq_some_iff.1 hrow1).1
  clear hb1 hrow1
  go_wp2_with fail
  clear y0 y1 y2 y3 y4
  have HB1a := bt.hide (HB1.out.alloc (Nat.le_of_lt hp1) (Obj.cells #[.int .i32 a, .int .i8 k, .int .u64 z, .slice A3 n3 c3, .slice A4 n4 c4] 41 (0, 0)))
  have HF1 := bt.hide (row HD.out HB1a.out (heap_alloc_new w1 _))
  have HS := bt.hide (fm.Fl.sane 50 HF1.out)
  refine (fo.fok _ 50 [d] _ 1 1 _ (by decide) HF1.out (Nat.le_refl _)).mono ?_
  rintro e w3 ⟨rfl, hb3⟩
  have hrow3 := ((hb3.block w.heap.size (by simp; omega)).trans (((Below.refl w1.heap.size w1).alloc (Nat.le_refl _) _).block w.heap.size hp1)).trans HROW1.out
  have HB3 := bt.hide (HB1a.out.trans (hb3.mono (by simp; omega)))
  have hsz3 : w.heap.size < w3.heap.size := (Array.getElem?_eq_some_iff.1 hrow3).1
  have HROW3 := bt.hide hrow3
  clear hb3 HF1 HB1a
  rcases hok : pl.fieldsOk 50 [d] with _ | _
  · clear hrow3
    go_wp2_with fail
    go_ret
    exact ⟨rfl, HB3.out⟩
  have HOK := bt.hide hok
  have HFW := bt.hide (va.F_written 50 d ds hok HS.out (by decide))
  have hbig : (pl.fieldsB 50 [d]).length ≤ 41943040 := HD.out.2.2.2.2.2.2.2.2.2.2.2.1
  obtain ⟨-, g1, g2, gk, -⟩ := pl.ok_parts hok
  have hak := HD.out.1
  have hkk := HD.out.2.1
  have HN := bt.hide (show ((pl.fNum d).toNat : Int) = a by omega)
  have HK := bt.hide (show ((pl.fKind d).toNat : Int) = k by omega)
  obtain ⟨y0, y1, y2, y3, y4⟩ := fl.five hrow3
  clear hok hrow3 g1 g2 gk hak hkk
  go_wp2_with fail
  clear y0 y1 y2 y3 y4
  have HB3a := bt.hide (HB3.out.alloc (Nat.le_of_lt hsz3) (Obj.cells #[.int .i32 a, .int .i8 k, .int .u64 z, .slice A3 n3 c3, .slice A4 n4 c4] 41 (0, 0)))
  have HF3 := bt.hide (row HD.out HB3a.out (heap_alloc_new w3 _))
  refine (fw.flds _ 50 [d] _ 1 1 _ HF3.out (Nat.le_refl _) HOK.out (by omega)).mono ?_
  rintro e w4 ⟨v4, rfl, hown4, hb4⟩
  have hrow4 := ((hb4.block w.heap.size (by simp; omega)).trans (((Below.refl w3.heap.size w3).alloc (Nat.le_refl _) _).block w.heap.size hsz3)).trans HROW3.out
  have HB4 := bt.hide (HB3a.out.trans (hb4.mono (by simp; omega)))
  have HROW4 := bt.hide hrow4
  have hsz4 : w.heap.size < w4.heap.size := (Array.getElem?_eq_some_iff.1 hrow4).1
  generalize pl.fieldsB 50 [d] = X at *
  obtain ⟨A5, c5, rfl, hc5, hm5, hr5, _⟩ := hown4.form
  have HR5 := bt.hide hr5
  obtain ⟨i0, hi, hz0, hz1, hz2⟩ := info_parts ap.info8
  have H0 := bt.hide hz0
  have H1 := bt.hide hz1
  have H2 := bt.hide hz2
  have HI := bt.hide hi
  clear hown4 hb4 hrow4 hr5 HF3 HB3a hz0 hz1 hz2 hi
  go_wp2_with (at_builtin; refine mem.wpList_append_bytes _ rfl _ _ 25 rfl w4.heap.size 5 i0 Try.underlying25 HI.out H0.out H1.out H2.out _ [] rfl (mem.Own.empty w4 _ _ (Nat.le_refl _)) w4.heap.size A5 _ c5 X rfl rfl ?c2 ?c3 ?c4 ?_)
  case c2 => exact HR5.out.below ((Below.refl _ _).alloc (Nat.le_refl _) _)
  case c3 => simp; omega
  case c4 => simp
  intro v6 w6 hown6 hbel6
  try simp only [List.nil_append] at hown6
  have HO6 := bt.hide hown6
  have HB46 := bt.hide (((Below.refl w4.heap.size w4).alloc (Nat.le_refl _) _).trans hbel6)
  have hs6 := HB46.out.size
  clear hown6 hbel6
  go_wp2_with (at_builtin; refine mem.wpList_append_bytes _ rfl _ _ 25 rfl w4.heap.size 5 i0 Try.underlying25 HI.out H0.out H1.out H2.out _ _ rfl HO6.out w.heap.size A n c ds rfl HLM.out.symm ?d2 ?d3 ?d4 ?_)
  case d2 => exact (HM.out.below HB4.out).below (HB46.out.mono (Nat.le_of_lt hsz4))
  case d3 => omega
  case d4 => exact hs6
  intro v7 w7 hown7 hbel7
  obtain ⟨A7, c7, rfl, hc7, hm7, hr7, _⟩ := hown7.form
  have HB47 := bt.hide (HB46.out.trans hbel7)
  have hs7 := HB47.out.size
  have K1 := va.icfl A7 _ c7 (X ++ ds) w7 hr7 rfl hc7 hm7
  rw [HFW.out] at K1
  have K1 := bt.hide K1
  clear hown7 hbel7 hr7
  generalize X ++ ds = Z at *
  go_wp2_with fail
  refine (K1.out).mono ?_
  rintro e w8 ⟨x, y, m, rfl, hb8, rfl, rfl, rfl⟩
  have hrow8 := ((hb8.block w.heap.size (by omega)).trans (HB47.out.block w.heap.size hsz4)).trans HROW4.out
  have HB8 := bt.hide (HB4.out.trans ((HB47.out.trans (hb8.mono hs7)).mono (Nat.le_of_lt hsz4)))
  obtain ⟨y0, y1, y2, y3, y4⟩ := fl.five hrow8
  clear hb8 hrow8
  dsimp only
  rw [HN.out, HK.out]
  go_wp2_with fail
  go_ret
  exact ⟨by simp, HB8.out⟩
end Go.Proofs.Ytacdclkhhgjkbaa.fnFieldUpto
