/-
  Plain joins: what ConsumeGroup and ConsumeField find of fields that are written, whole and cut; numbers and bytes in memory are such as a machine holds; one field laid anew.
-/
import Derived.Test.YtacdclkhhgjkbaaFlm
import Derived.Test.YtacdclkhhgjkbaaFlp
import Derived.Test.YtacdclkhhgjkbaaVal
namespace Go.Proofs.Ytacdclkhhgjkbaa.pl
section
variable {H : Type}

theorem G_written (n : Nat) (l : List (DataW H)) (num a : Int) (more : List Nat) (hok : fieldsOk n l = true) (hs : sane n l) (hn : n ≤ 10000) (h1 : 1 ≤ a) (h2 : a ≤ 536870911) :
    G 10001 num (fieldsB n l ++ (enc (tagN a 4) ++ more)) = if a = num then some ((fieldsB n l).length, (fieldsB n l).length + (enc (tagN a 4)).length) else none :=
  grp_written n l _ 10000 num a more hok hs (by simp only [List.length_append]; omega) hn h1 h2

theorem G_cut (n : Nat) (l : List (DataW H)) (num : Int) (k : Nat) (hok : fieldsOk n l = true) (hs : sane n l) (hn : n ≤ 10000) (h1 : 1 ≤ num) (h2 : num ≤ 536870911) (hk : k < (fieldsB n l ++ enc (tagN num 4)).length) :
    G 10001 num ((fieldsB n l ++ enc (tagN num 4)).take k) = none := by
  have hl : ((fieldsB n l ++ enc (tagN num 4)).take k).length = k := by rw [List.length_take]; omega
  unfold G
  rw [hl, grp_fuel (k + 1) (k + 1 + (fieldsB n l).length) 10001 num _ (by omega) (by omega)]
  exact grp_cut n l _ 10000 num k hok hs (by omega) hn h1 h2 hk

theorem V_written (n : Nat) (d : DataW H) (more : List Nat) (hok : fieldsOk n [d] = true) (hs : sane n [d]) (hn : n ≤ 10000) :
    V 10001 (fNum d) (fKind d).toNat (valB (below H n) d ++ more) = some (valB (below H n) d).length :=
  fval_written n d _ 10001 more hok hs (by simp only [List.length_append]; omega) (by omega)

theorem V_cut3 (n : Nat) (d : DataW H) (k : Nat) (hok : fieldsOk (n + 1) [d] = true) (hs : sane (n + 1) [d]) (hn : n ≤ 10000) (h3 : fKind d = 3) (hk : k < (valB (below H (n + 1)) d).length) :
    V 10001 (fNum d) 3 ((valB (below H (n + 1)) d).take k) = none := by
  obtain ⟨_, h1, h2, _, h4⟩ := ok_parts hok
  obtain ⟨m, hm, hokm⟩ := h4 h3
  obtain rfl : n = m := by omega
  have hkid := (sane_parts hs).2.2.2 n rfl
  have e : valB (below H (n + 1)) d = fieldsB n (fKids d) ++ enc (tagN (fNum d) 4) := by
    unfold valB
    rw [h3]
    simp [below]
  rw [e] at hk ⊢
  rw [V_group, G_cut n (fKids d) (fNum d) k hokm hkid hn h1 h2 hk]
  rfl

end
end Go.Proofs.Ytacdclkhhgjkbaa.pl
namespace Go.Proofs.Ytacdclkhhgjkbaa.va
section
variable {H : Type}

theorem F_written (n : Nat) (d : DataW H) (more : List Nat) (hok : pl.fieldsOk n [d] = true) (hs : pl.sane n [d]) (hn : n ≤ 10000) :
    F (pl.fieldsB n [d] ++ more) = some ((pl.fNum d).toNat, (pl.fKind d).toNat, (pl.fieldsB n [d]).length) := by
  obtain ⟨_, h1, h2, hk, _⟩ := pl.ok_parts hok
  rw [pl.fieldsB_one, List.append_assoc, F_tag (pl.tag_of h1 h2 hk _), List.drop_left, show (((pl.fNum d).toNat : Nat) : Int) = pl.fNum d from Int.toNat_of_nonneg (by omega), pl.V_written n d more hok hs hn]
  simp

theorem F_cut3 (n : Nat) (d : DataW H) (k : Nat) (hok : pl.fieldsOk (n + 1) [d] = true) (hs : pl.sane (n + 1) [d]) (hn : n ≤ 10000) (h3 : pl.fKind d = 3) (hk : k < (pl.fieldsB (n + 1) [d]).length) :
    F ((pl.fieldsB (n + 1) [d]).take k) = none := by
  obtain ⟨_, h1, h2, hkk, _⟩ := pl.ok_parts hok
  rw [pl.fieldsB_one] at hk ⊢
  rcases Nat.lt_or_ge k (pl.enc (pl.tagN (pl.fNum d) (pl.fKind d))).length with h | h
  · rw [List.take_append_of_le_length (by omega)]
    exact F_none (pl.rtag_cut (pl.fNum d).toNat (pl.fKind d).toNat k h)
  · obtain ⟨m, rfl⟩ : ∃ m, k = (pl.enc (pl.tagN (pl.fNum d) (pl.fKind d))).length + m := ⟨k - (pl.enc (pl.tagN (pl.fNum d) (pl.fKind d))).length, by omega⟩
    rw [List.length_append] at hk
    rw [List.take_length_add_append, F_tag (pl.tag_of h1 h2 hkk _), List.drop_left, show (((pl.fNum d).toNat : Nat) : Int) = pl.fNum d from Int.toNat_of_nonneg (by omega), h3]
    show ((pl.V 10001 (pl.fNum d) 3 _).map fun v => _) = none
    rw [pl.V_cut3 n d m hok hs hn h3 (by omega)]
    rfl
end
end Go.Proofs.Ytacdclkhhgjkbaa.va
namespace Go.Proofs.Ytacdclkhhgjkbaa.fm
open Go.RowKit
section
variable {H : Type}

/-- Numbers and bytes are such as a machine holds. -/
theorem Fl.sane {w : World} {B : Nat} (m : Nat) : ∀ {A : Option Addr} {n : Nat} {l : List (DataW H)}, Fl w B m A n l → pl.sane m l := by
  induction m with
  | zero =>
    intro A n l h d hd
    obtain ⟨i, hi, rfl⟩ := List.mem_iff_getElem.1 hd
    obtain ⟨b, off, _, _, he⟩ := h.2.2 (by have := h.1; omega)
    obtain ⟨_, _, _, _, _, _, _, _, _, _, _, _, hv, _, hm, _⟩ := he i (by have := h.1; omega)
    rw [List.getD_eq_getElem?_getD, List.getElem?_eq_getElem hi] at hv hm
    simp only [maxLen] at hm
    exact ⟨hv, by simp only [Option.getD_some] at hm; omega⟩
  | succ m ih =>
    intro A n l h d hd
    obtain ⟨i, hi, rfl⟩ := List.mem_iff_getElem.1 hd
    obtain ⟨b, off, _, _, he⟩ := h.2.2 (by have := h.1; omega)
    obtain ⟨_, _, _, _, _, _, _, _, _, _, _, _, hv, _, hm, hk⟩ := he i (by have := h.1; omega)
    rw [List.getD_eq_getElem?_getD, List.getElem?_eq_getElem hi] at hv hm hk
    simp only [maxLen] at hm
    exact ⟨hv, by simp only [Option.getD_some] at hm; omega, ih hk⟩

/-- One field, in a row of its own. -/
theorem Fl.single {w : World} {g : Nat} {t : TypeId} {a k v : Int} {A3 : Option Addr} {n3 c3 : Nat} {A4 : Option Addr} {n4 c4 : Nat} {m : Nat} {d : DataW H} (hg : w.heap[g]? = some (.cells #[.int .i32 a, .int .i8 k, .int .u64 v, .slice A3 n3 c3, .slice A4 n4 c4] t (0, 0)))
    (ha : a = pl.fNum d) (hk : k = pl.fKind d) (hv : v = ((pl.fV d : Nat) : Int)) (hn3 : n3 = (pl.fData d).length) (h0 : -2147483648 ≤ a ∧ a ≤ 2147483647) (h1 : -128 ≤ k ∧ k ≤ 127) (hv1 : pl.fV d < 18446744073709551616) (hr : mem.Rd w w.heap.size A3 (pl.fData d)) (hm : n3 ≤ maxLen)
    (hkid : Kid w w.heap.size m A4 n4 (pl.fKids d)) : Fl w w.heap.size m (some ⟨g, 0, none⟩) 1 [d] := by
  apply Row.fl
  refine ⟨rfl, by simp [maxLen], fun _ => ⟨g, 0, rfl, (Array.getElem?_eq_some_iff.1 hg).1, fun i hi => ?_⟩⟩
  obtain rfl : i = 0 := by omega
  subst ha hk hv hn3
  exact ⟨A3, c3, A4, n4, c4, cell_of_row _ g 0 _ t (0, 0) hg, cell_of_row _ g 1 _ t (0, 0) hg, cell_of_row _ g 2 _ t (0, 0) hg, cell_of_row _ g 3 _ t (0, 0) hg, cell_of_row _ g 4 _ t (0, 0) hg, h0, h1, hv1, hr, hm, hkid⟩
end
end Go.Proofs.Ytacdclkhhgjkbaa.fm
