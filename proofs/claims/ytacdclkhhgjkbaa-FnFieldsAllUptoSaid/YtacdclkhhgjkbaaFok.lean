/-
  The contract of the reference's FieldsOk, on fields of whatever number and depth.
-/
import Derived.Test.YtacdclkhhgjkbaaFlm
import Derived.Test.YtacdclkhhgjkbaaFlp
import Derived.Test.YtacdclkhhgjkbaaPure
import Derived.Test.YtacdclkhhgjkbaaBits
namespace Go.Proofs.Ytacdclkhhgjkbaa.fo
open Go.RowKit
set_option linter.unusedVariables false
section
variable {H : Type}

/-- A field's five cells, with names of their own. -/
theorem open_el {w : World} {B b off : Nat} {K : Option Addr → Nat → List (DataW H) → Prop} {d : DataW H} (h : fm.El w B K b off d) :
    ∃ (a k v : Int) (A3 : Option Addr) (n3 c3 : Nat) (A4 : Option Addr) (n4 c4 : Nat), w.cell? ⟨b, off, none⟩ = some (.int .i32 a) ∧ w.cell? ⟨b, off + 1, none⟩ = some (.int .i8 k) ∧ w.cell? ⟨b, off + 2, none⟩ = some (.int .u64 v) ∧
      w.cell? ⟨b, off + 3, none⟩ = some (.slice A3 n3 c3) ∧ w.cell? ⟨b, off + 4, none⟩ = some (.slice A4 n4 c4) ∧
      Hid (a = pl.fNum d ∧ k = pl.fKind d ∧ v = ((pl.fV d : Nat) : Int) ∧ n3 = (pl.fData d).length ∧ (-2147483648 ≤ a ∧ a ≤ 2147483647) ∧ (-128 ≤ k ∧ k ≤ 127) ∧ pl.fV d < 18446744073709551616 ∧ mem.Rd w B A3 (pl.fData d) ∧ n3 ≤ maxLen ∧ K A4 n4 (pl.fKids d)) := by
  obtain ⟨A3, c3, A4, n4, c4, x0, x1, x2, x3, x4, h0, h1, h2, h3, h4, h5⟩ := h
  exact ⟨_, _, _, A3, _, c3, A4, n4, c4, x0, x1, x2, x3, x4, bt.hide ⟨rfl, rfl, rfl, rfl, h0, h1, h2, h3, h4, h5⟩⟩

/-- Whether they can be written, and memory as it was below. -/
def Says (w : World) (b : Bool) (e : Ending) (w' : World) : Prop := e = .returned (.bool b) ∧ Below w.heap.size w w'

theorem fok_none (A : Option Addr) (c : Nat) (deep : Nat) (w : World) : Calls Try.prog 15 #[.slice A 0 c, .int .i64 (deep : Int)] w (Says w true) := by
  go_enter Try.func15, Try.ntmps15
  go_wp2_with fail
  go_loopw [9] (fun i wr => i = .int .i64 0 ∧ Hid (Below w.heap.size w wr)) (fun i _ => 0)
  case atStart => exact ⟨rfl, bt.hide (Below.refl _ _)⟩
  case round =>
    obtain ⟨rfl, hbel⟩ := hrel
    go_wp2_with fail
    go_ret
    exact ⟨rfl, hbel.out⟩

set_option maxRecDepth 100000 in
set_option maxHeartbeats 1000000 in
theorem fok_some (deep : Nat) (hdeep : deep ≤ 50) (l : List (DataW H)) (b off n c B : Nat) (w : World) (hf : fm.Fl w B deep (some ⟨b, off, none⟩) n l) (hB : B ≤ w.heap.size)
    (KK : ∀ (m : Nat) (A : Option Addr) (n c : Nat) (l : List (DataW H)) (W : World), deep = m + 1 → fm.Fl W B m A n l → B ≤ W.heap.size → Calls Try.prog 15 #[.slice A n c, .int .i64 (m : Int)] W (Says W (pl.fieldsOk m l))) :
    Calls Try.prog 15 #[.slice (some ⟨b, off, none⟩) n c, .int .i64 (deep : Int)] w (Says w (pl.fieldsOk deep l)) := by
  have HF := bt.hide hf
  have HKK := bt.hide KK
  have hni : (n : Int) ≤ 9223372036854775807 := by have := hf.row.2.1; simp [maxLen] at this; omega
  have HL := bt.hide hf.row.1
  clear hf KK
  go_enter Try.func15, Try.ntmps15
  go_wp2_with fail
  go_loopw [9] (fun i wr => ∃ j : Nat, i = .int .i64 (j : Int) ∧ j ≤ n ∧ Hid (pl.fieldsOk deep (l.take j) = true) ∧ Hid (Below w.heap.size w wr)) (fun i _ => (n - intOf i).toNat)
  case atStart => exact ⟨0, rfl, by omega, bt.hide (by rw [List.take_zero, pl.fieldsOk_nil]), bt.hide (Below.refl _ _)⟩
  case round =>
    obtain ⟨j, rfl, hjn, hok, hbel⟩ := hrel
    by_cases hj : j < n
    rotate_left
    · have hj2 : decide (j < n) = false := by simpa using hj
      have HJ := bt.hide hj
      clear hj
      go_wp2_with fail
      go_ret
      refine ⟨?_, hbel.out⟩
      have := hok.out
      have hlen := HL.out
      have hj := HJ.out
      rw [List.take_of_length_le (by omega)] at this
      rw [this]
      rfl
    · have hb1 := hbel.out.size
      have hw1 := hbel.out
      obtain ⟨hbB, hel⟩ := (HF.out.below (hw1.mono hB)).at_ rfl hj
      obtain ⟨a, k, v, A3, n3, c3, A4, n4, c4, y0, y1, y2, y3, y4, HE⟩ := open_el hel
      have hj2 : decide (j < n) = true := by simpa using hj
      clear hel
      have hjl : j < l.length := by rw [HL.out]; exact hj
      by_cases hnum : 1 ≤ a ∧ a ≤ 536870911
      rotate_left
      · have KN := bt.hide (fun (W : World) => pu.numOk_no a W (by omega))
        have HNO := bt.hide (pl.fieldsOk_no deep l j hjl (pl.one_num deep _ (by have := HE.out.1; omega)))
        clear hnum hjl
        go_wp2_with fail
        refine (KN.out _).mono ?_
        rintro e w1 ⟨rfl, rfl⟩
        clear y0 y1 y2 y3 y4
        go_wp2_with fail
        go_ret
        exact ⟨by rw [HNO.out]; rfl, hbel.out.alloc hb1 _⟩
      have KN := bt.hide (fun (W : World) => pu.numOk_yes a W hnum.1 hnum.2)
      have HNUM := bt.hide hnum
      have HJL := bt.hide hjl
      clear hnum hjl
      by_cases hk0 : k < 0
      · have hd0 : decide (k < 0) = true := by simpa using hk0
        have HNO := bt.hide (pl.fieldsOk_no deep l j HJL.out (pl.one_kind deep _ (by have := HE.out.2.1; omega)))
        clear hk0
        go_wp2_with fail
        refine (KN.out _).mono ?_
        rintro e w1 ⟨rfl, rfl⟩
        clear y0 y1 y2 y3 y4
        go_wp2_with fail
        go_ret
        exact ⟨by rw [HNO.out]; rfl, hbel.out.alloc hb1 _⟩
      have hd0 : decide (k < 0) = false := by simpa using hk0
      by_cases hk5 : 5 < k
      · have hd5 : decide (5 < k) = true := by simpa using hk5
        have HNO := bt.hide (pl.fieldsOk_no deep l j HJL.out (pl.one_kind deep _ (by have := HE.out.2.1; omega)))
        clear hk0 hk5
        go_wp2_with fail
        refine (KN.out _).mono ?_
        rintro e w1 ⟨rfl, rfl⟩
        clear y0 y1 y2 y3 y4
        go_wp2_with fail
        go_ret
        exact ⟨by rw [HNO.out]; rfl, hbel.out.alloc hb1 _⟩
      have hd5 : decide (5 < k) = false := by simpa using hk5
      by_cases hk4 : k = 4
      · subst hk4
        have HNO := bt.hide (pl.fieldsOk_no deep l j HJL.out (pl.one_kind deep _ (by have := HE.out.2.1; omega)))
        clear hk0 hk5 hd0 hd5
        go_wp2_with fail
        refine (KN.out _).mono ?_
        rintro e w1 ⟨rfl, rfl⟩
        clear y0 y1 y2 y3 y4
        go_wp2_with fail
        go_ret
        exact ⟨by rw [HNO.out]; rfl, hbel.out.alloc hb1 _⟩
      have hd4 : decide (k = 4) = false := by simpa using hk4
      by_cases hk3 : k = 3
      rotate_left
      · have hd3 : decide (k = 3) = false := by simpa using hk3
        have HOK := bt.hide (pl.fieldsOk_step deep l j HJL.out hok.out (pl.one_plain deep _ (by have := HE.out.1; have := HNUM.out; omega) (by have := HE.out.1; have := HNUM.out; omega) (by have := HE.out.2.1; omega)))
        clear hk0 hk5 hd4 hd3
        go_wp2_with fail
        refine (KN.out _).mono ?_
        rintro e w1 ⟨rfl, rfl⟩
        clear y0 y1 y2 y3 y4
        go_wp2_with fail
        go_roundw
        case rel => exact ⟨j + 1, by simp, by omega, HOK, bt.hide (hbel.out.alloc hb1 _)⟩
        case measure => simp [intOf]; omega
      subst hk3
      clear hk0 hk5 hd0 hd5 hd4 hk4
      rcases deep with _ | m
      · have HNO := bt.hide (pl.fieldsOk_no 0 l j HJL.out (pl.one_flat _ (by have := HE.out.2.1; omega)))
        go_wp2_with fail
        refine (KN.out _).mono ?_
        rintro e w1 ⟨rfl, rfl⟩
        clear y0 y1 y2 y3 y4
        go_wp2_with fail
        go_ret
        exact ⟨by rw [HNO.out]; rfl, hbel.out.alloc hb1 _⟩
      have KK2 := bt.hide (fun (W : World) (h : fm.Fl W B m A4 n4 (pl.fKids (l.getD j .nil))) (hW : B ≤ W.heap.size) => HKK.out m A4 n4 c4 (pl.fKids (l.getD j .nil)) W rfl h hW)
      have hm1 : ¬ ((m : Int) + 1 < 1) := by omega
      have hm2 : (m : Int) ≤ 50 := by omega
      have hdec : decide ((m : Int) + 1 < 1) = false := by simpa using hm1
      simp only [Int.natCast_add, Int.cast_ofNat_Int]
      clear HKK
      go_wp2_with fail
      refine (KN.out _).mono ?_
      rintro e w1 ⟨rfl, rfl⟩
      clear y0 y1 y2 y3
      go_wp2_with fail
      have HKid := HE.out.2.2.2.2.2.2.2.2.2
      have hwB : B ≤ wr.heap.size := by omega
      refine (KK2.out _ (fm.Fl.below HKid ((Below.refl B wr).alloc hwB _)) (by simp; omega)).mono ?_
      rintro e w1 ⟨rfl, hb2⟩
      have HB2 := bt.hide ((hbel.out.alloc hb1 _).trans (hb2.mono (by simp; omega)))
      have HD := bt.hide (pl.one_deep m (l.getD j .nil) (by have := HE.out.1; have := HNUM.out; omega) (by have := HE.out.1; have := HNUM.out; omega) (by have := HE.out.2.1; omega))
      clear y4 hb2 HKid hw1
      rcases hr : pl.fieldsOk m (pl.fKids (l.getD j .nil)) with _ | _
      · have HNO := bt.hide (pl.fieldsOk_no (m + 1) l j HJL.out (by rw [HD.out, hr]))
        clear hr
        go_wp2_with fail
        go_ret
        exact ⟨by rw [HNO.out]; rfl, HB2.out⟩
      · have HOK := bt.hide (pl.fieldsOk_step (m + 1) l j HJL.out hok.out (by rw [HD.out, hr]))
        clear hr
        go_wp2_with fail
        go_roundw
        case rel => exact ⟨j + 1, by simp, by omega, HOK, HB2⟩
        case measure => simp [intOf]; omega

/-- FieldsOk, at whatever depth. -/
theorem fok (B : Nat) (deep : Nat) : ∀ (l : List (DataW H)) (A : Option Addr) (n c : Nat) (w : World), deep ≤ 50 → fm.Fl w B deep A n l → B ≤ w.heap.size →
    Calls Try.prog 15 #[.slice A n c, .int .i64 (deep : Int)] w (Says w (pl.fieldsOk deep l)) := by
  induction deep with
  | zero =>
    intro l A n c w hd hf hB
    rcases Nat.eq_zero_or_pos n with rfl | hn
    · have := hf.row.1
      obtain rfl := List.eq_nil_of_length_eq_zero this
      rw [pl.fieldsOk_nil]
      exact fok_none A c 0 w
    · obtain ⟨b, off, rfl, _⟩ := hf.row.2.2 hn
      exact fok_some 0 hd l b off n c B w hf hB (fun m _ _ _ _ _ e => by omega)
  | succ deep ih =>
    intro l A n c w hd hf hB
    rcases Nat.eq_zero_or_pos n with rfl | hn
    · have := hf.row.1
      obtain rfl := List.eq_nil_of_length_eq_zero this
      rw [pl.fieldsOk_nil]
      exact fok_none A c (deep + 1) w
    · obtain ⟨b, off, rfl, _⟩ := hf.row.2.2 hn
      refine fok_some (deep + 1) hd l b off n c B w hf hB (fun m A2 n2 c2 l2 W e hf2 hW => ?_)
      obtain rfl : deep = m := by omega
      exact ih l2 A2 n2 c2 W (by omega) hf2 hW
end
end Go.Proofs.Ytacdclkhhgjkbaa.fo
