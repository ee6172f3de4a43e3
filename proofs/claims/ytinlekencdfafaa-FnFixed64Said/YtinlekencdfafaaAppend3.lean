/-
  Contracts of the functions that append bytes, texts and groups.
-/
import Derived.Test.YtinlekencdfafaaAppend2
import Derived.Lib.AppendStr
import Derived.Lib.ConvBytes
namespace Go.Proofs.Ytinlekencdfafaa.ap
open Go.RowKit
set_option linter.unusedVariables false

theorem wab (base : Nat) (v : Value) (bs : List Nat) (A : Option Addr) (n c : Nat) (ds : List Nat) (w : World) (hown : mem.Own w base 5 v bs) (hb : base ≤ w.heap.size) (hr : mem.Rd w base A ds) (hn : n = ds.length) (hnm : n ≤ 2147483647) (hl : bs.length + n + 10 ≤ 140737488355328) :
    Calls Try.prog 45 #[v, .slice A n c] w (mem.Gives w base 5 (bs ++ (pl.enc n ++ ds))) := by
  obtain ⟨i0, hi, hz0, hz1, hz2⟩ := info_parts info8
  have K := bt.hide (wavar base v bs (n : Int) w (by omega) (by omega) hown hb (by omega))
  rw [Int.toNat_natCast] at K
  have hel := pl.enc_len_le n
  have HN := bt.hide hn
  have HR := bt.hide hr
  have H0 := bt.hide hz0
  have H1 := bt.hide hz1
  have H2 := bt.hide hz2
  have HI := bt.hide hi
  clear hown hr hz0 hz1 hz2 hi hn
  go_enter Try.func45, Try.ntmps45
  go_wp2_with fail
  refine (K.out).mono ?_
  rintro e w1 ⟨v1, rfl, hown1, hbel1⟩
  have HO := bt.hide hown1
  have B1 := bt.hide hbel1
  clear hown1 hbel1
  go_wp2_with (at_builtin; refine mem.wpList_append_bytes _ rfl _ _ 22 rfl base 5 i0 Try.underlying22 HI.out H0.out H1.out H2.out v1 _ rfl HO.out base A n c ds rfl HN.out ?c2 ?c3 ?c4 ?_)
  case c2 => exact HR.out.below B1.out
  case c3 => simp only [List.length_append]; omega
  case c4 => have := B1.out.size; omega
  intro v2 w2 hown2 hbel2
  try rw [List.append_assoc] at hown2
  have HO2 := bt.hide hown2
  have B2 := bt.hide (B1.out.trans hbel2)
  clear hown2 hbel2
  go_wp2_with fail
  go_ret
  exact ⟨v2, rfl, HO2.out, B2.out⟩
theorem iab (A0 : Option Addr) (bs : List Nat) (n0 c0 : Nat) (A : Option Addr) (n c : Nat) (ds : List Nat) (w : World) (hr0 : mem.Rd w w.heap.size A0 bs) (hn0 : n0 = bs.length) (hr : mem.Rd w w.heap.size A ds) (hn : n = ds.length) (hnm : n ≤ 2147483647) (hl : bs.length + n + 10 ≤ 140737488355328) :
    Calls Try.prog 30 #[.slice A0 n0 c0, .slice A n c] w (mem.Gives w w.heap.size 5 (bs ++ (pl.enc n ++ ds))) := by
  obtain ⟨i0, hi, hz0, hz1, hz2⟩ := info_parts info8
  have HN0 := bt.hide hn0
  have HR0 := bt.hide hr0
  have HN := bt.hide hn
  have HR := bt.hide hr
  have H0 := bt.hide hz0
  have H1 := bt.hide hz1
  have H2 := bt.hide hz2
  have HI := bt.hide hi
  clear hr hr0 hz0 hz1 hz2 hi hn hn0
  go_enter Try.func30, Try.ntmps30
  go_wp2_with (at_builtin; refine mem.wpList_append_bytes _ rfl _ _ 22 rfl w.heap.size 5 i0 Try.underlying22 HI.out H0.out H1.out H2.out _ [] rfl (mem.Own.empty w _ _ (Nat.le_refl _)) w.heap.size A0 n0 c0 bs rfl HN0.out ?c2 ?c3 ?c4 ?_)
  case c2 => exact HR0.out.below ((Below.refl _ _).alloc (Nat.le_refl _) _)
  case c3 => have := HN0.out; simp; omega
  case c4 => simp
  intro v1 w1 hown1 hbel1
  have HO := bt.hide hown1
  have hbel : Below w.heap.size w w1 := ((Below.refl _ _).alloc (Nat.le_refl _) _).trans hbel1
  have HB := bt.hide hbel
  clear hown1 hbel1 hbel
  go_wp2_with fail
  refine (wab w.heap.size v1 bs A n c ds _ HO.out HB.out.size (HR.out.below HB.out) HN.out hnm hl).mono ?_
  rintro e w2 ⟨v2, rfl, hown2, hbel2⟩
  go_wp2_with fail
  go_ret
  exact ⟨v2, rfl, hown2, HB.out.trans hbel2⟩
/-- A text's bytes as numbers. -/
def nums (s : ByteArray) : List Nat := s.data.toList.map UInt8.toNat
theorem nums_length (s : ByteArray) : (nums s).length = s.size := by
  show (s.data.toList.map UInt8.toNat).length = s.data.size
  rw [List.length_map, Array.length_toList]
theorem nums_byte (s : ByteArray) : ∀ b ∈ nums s, b < 256 := by
  intro b hb
  obtain ⟨u, _, rfl⟩ := List.mem_map.1 hb
  exact u.toNat_lt
theorem nums_cells (s : ByteArray) : Lib.strCells s = (nums s).map mem.bv := by
  unfold Lib.strCells nums
  rw [List.map_map]
  rfl
theorem nums_str (s : ByteArray) : mem.str (nums s) = s := by
  unfold mem.str nums
  rw [List.map_map]
  have : (fun b => UInt8.ofNat b) ∘ UInt8.toNat = id := by
    funext u
    simp
  rw [this, List.map_id]
theorem was (base : Nat) (v : Value) (bs : List Nat) (s : ByteArray) (w : World) (hown : mem.Own w base 5 v bs) (hb : base ≤ w.heap.size) (hnm : s.size ≤ 2147483647) (hl : bs.length + s.size + 10 ≤ 140737488355328) :
    Calls Try.prog 47 #[v, .string s] w (mem.Gives w base 5 (bs ++ (pl.enc s.size ++ nums s))) := by
  obtain ⟨i0, hi, hz0, hz1, hz2⟩ := info_parts info8
  have K := bt.hide (wavar base v bs (s.size : Int) w (by omega) (by omega) hown hb (by omega))
  rw [Int.toNat_natCast] at K
  have hel := pl.enc_len_le s.size
  have H0 := bt.hide hz0
  have H1 := bt.hide hz1
  have H2 := bt.hide hz2
  have HI := bt.hide hi
  clear hown hz0 hz1 hz2 hi
  go_enter Try.func47, Try.ntmps47
  go_wp2_with fail
  refine (K.out).mono ?_
  rintro e w1 ⟨v1, rfl, hown1, hbel1⟩
  have HO := bt.hide hown1
  have B1 := bt.hide hbel1
  clear hown1 hbel1
  go_wp2_with (at_builtin; refine Lib.wpList_append_own_string w1 rfl _ _ 22 9 rfl base 5 i0 Try.underlying22 Try.underlying9 HI.out H0.out H1.out ?c0 v1 _ _ rfl HO.out.2.2 s rfl ?c2 ?c3 ?c4 ?_)
  case c0 => exact H2.out
  case c2 => simp only [maxLen, List.length_append]; omega
  case c3 => simp only [List.length_append]; omega
  case c4 => have := B1.out.size; omega
  intro v2 w2 hrow hgrow _
  have HO2 : Hid (mem.Own w2 base 5 v2 (bs ++ (pl.enc s.size ++ nums s))) := by
    refine ⟨fun b hb' => ?_, ?_, ?_⟩
    · rw [← List.append_assoc] at hb'
      rcases List.mem_append.1 hb' with h3 | h3
      · exact HO.out.1 b h3
      · exact nums_byte s b h3
    · simp only [List.length_append, nums_length, maxLen]
      omega
    · have e1 : (bs ++ (pl.enc s.size ++ nums s)).length = (bs ++ pl.enc s.size).length + s.size := by simp only [List.length_append, nums_length]; omega
      rw [e1, ← List.append_assoc, List.map_append, ← nums_cells]
      simpa only [List.length_append, List.map_append, List.append_assoc] using hrow
  have B2 := bt.hide (B1.out.trans ((Below.refl base w1).grown hgrow (by have := B1.out.size; omega) (fun k hk => (HO.out.2.2.lt k hk).1)))
  clear hrow hgrow
  go_wp2_with fail
  go_ret
  exact ⟨v2, rfl, HO2.out, B2.out⟩
theorem ias (A0 : Option Addr) (bs : List Nat) (n0 c0 : Nat) (s : ByteArray) (w : World) (hr0 : mem.Rd w w.heap.size A0 bs) (hn0 : n0 = bs.length) (hnm : s.size ≤ 2147483647) (hl : bs.length + s.size + 10 ≤ 140737488355328) :
    Calls Try.prog 32 #[.slice A0 n0 c0, .string s] w (mem.Gives w w.heap.size 5 (bs ++ (pl.enc s.size ++ nums s))) := by
  obtain ⟨i0, hi, hz0, hz1, hz2⟩ := info_parts info8
  have HN0 := bt.hide hn0
  have HR0 := bt.hide hr0
  have H0 := bt.hide hz0
  have H1 := bt.hide hz1
  have H2 := bt.hide hz2
  have HI := bt.hide hi
  clear hr0 hz0 hz1 hz2 hi hn0
  go_enter Try.func32, Try.ntmps32
  go_wp2_with (at_builtin; refine mem.wpList_append_bytes _ rfl _ _ 22 rfl w.heap.size 5 i0 Try.underlying22 HI.out H0.out H1.out H2.out _ [] rfl (mem.Own.empty w _ _ (Nat.le_refl _)) w.heap.size A0 n0 c0 bs rfl HN0.out ?c2 ?c3 ?c4 ?_)
  case c2 => exact HR0.out.below ((Below.refl _ _).alloc (Nat.le_refl _) _)
  case c3 => have := HN0.out; simp; omega
  case c4 => simp
  intro v1 w1 hown1 hbel1
  have HO := bt.hide hown1
  have hbel : Below w.heap.size w w1 := ((Below.refl _ _).alloc (Nat.le_refl _) _).trans hbel1
  have HB := bt.hide hbel
  clear hown1 hbel1 hbel
  go_wp2_with fail
  refine (was w.heap.size v1 bs s _ HO.out HB.out.size hnm hl).mono ?_
  rintro e w2 ⟨v2, rfl, hown2, hbel2⟩
  go_wp2_with fail
  go_ret
  exact ⟨v2, rfl, hown2, HB.out.trans hbel2⟩
end Go.Proofs.Ytinlekencdfafaa.ap
