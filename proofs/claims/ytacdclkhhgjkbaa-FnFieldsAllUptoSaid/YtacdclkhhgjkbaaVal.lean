/-
  The contract of consumeFieldValueD: how long a field's value is.
-/
import Derived.Test.YtacdclkhhgjkbaaPlainV
import Derived.Test.YtacdclkhhgjkbaaCons4
import Derived.OpenShut
namespace Go.Proofs.Ytacdclkhhgjkbaa.va
open Go.RowKit
set_option linter.unusedVariables false

/-- A length as the reading says; a negative number where it fails. -/
def Ok (o : Option Nat) (r : Int) : Prop := match o with | some m => r = m | none => r < 0
def Val (w : World) (o : Option Nat) (e : Ending) (w' : World) : Prop := ∃ r : Int, e = .returned (.int .i64 r) ∧ Below w.heap.size w w' ∧ Ok o r

theorem fv0 (A : Option Addr) (n c : Nat) (bs : List Nat) (w : World) (num z : Int) (hr : mem.Rd w w.heap.size A bs) (hn : n = bs.length) (hc : n ≤ c) (hm : c ≤ maxLen) :
    Calls Try.prog 38 #[.int .i32 num, .int .i8 0, .slice A n c, .int .i64 z] w (Val w (pl.simple 0 bs)) := by
  have hm' := hm
  simp only [maxLen] at hm'
  rcases hv : pl.rv 10 bs with _ | x
  · have K := bt.hide (co.wcv_no A n c bs _ w hr hn (by omega) hv)
    have e : pl.simple 0 bs = none := by simp [pl.simple, hv]
    rw [e]
    clear hr hn hm hv e
    go_enter Try.func38, Try.ntmps38
    go_wp2_with fail
    refine (K.out).mono ?_
    rintro e w1 ⟨k, rfl, rfl, h1, _⟩
    go_wp2_with fail
    go_ret
    exact ⟨k, rfl, Below.refl _ _, h1⟩
  · have K := bt.hide (co.wcv_yes A n c bs _ w x hr hn (by omega) hv)
    have e : pl.simple 0 bs = some x.2 := by simp [pl.simple, hv]
    rw [e]
    clear hr hn hm hv e
    go_enter Try.func38, Try.ntmps38
    go_wp2_with fail
    refine (K.out).mono ?_
    rintro e w1 ⟨rfl, rfl⟩
    go_wp2_with fail
    go_ret
    exact ⟨x.2, rfl, Below.refl _ _, rfl⟩
theorem fv5 (A : Option Addr) (n c : Nat) (bs : List Nat) (w : World) (num z : Int) (hr : mem.Rd w w.heap.size A bs) (hn : n = bs.length) (hc : n ≤ c) (hm : c ≤ maxLen) :
    Calls Try.prog 38 #[.int .i32 num, .int .i8 5, .slice A n c, .int .i64 z] w (Val w (pl.simple 5 bs)) := by
  have hm' := hm
  simp only [maxLen] at hm'
  by_cases h4 : n < 4
  · have K := bt.hide (co.wcf32_no A n c w h4)
    have e : pl.simple 5 bs = none := by simp [pl.simple]; omega
    rw [e]
    clear hr hn hm h4 e
    go_enter Try.func38, Try.ntmps38
    go_wp2_with fail
    refine (K.out).mono ?_
    rintro e w1 ⟨rfl, rfl⟩
    go_wp2_with fail
    go_ret
    exact ⟨-1, rfl, Below.refl _ _, by simp [Ok]⟩
  · have K := bt.hide (co.wcf32_yes A n c bs _ w hr hn (by omega) (by omega))
    have e : pl.simple 5 bs = some 4 := by simp [pl.simple]; omega
    rw [e]
    clear hr hn hm h4 e
    go_enter Try.func38, Try.ntmps38
    go_wp2_with fail
    refine (K.out).mono ?_
    rintro e w1 ⟨rfl, hb⟩
    have HB := bt.hide hb
    clear hb
    go_wp2_with fail
    go_ret
    exact ⟨4, rfl, HB.out, rfl⟩
theorem fv1 (A : Option Addr) (n c : Nat) (bs : List Nat) (w : World) (num z : Int) (hr : mem.Rd w w.heap.size A bs) (hn : n = bs.length) (hc : n ≤ c) (hm : c ≤ maxLen) :
    Calls Try.prog 38 #[.int .i32 num, .int .i8 1, .slice A n c, .int .i64 z] w (Val w (pl.simple 1 bs)) := by
  have hm' := hm
  simp only [maxLen] at hm'
  by_cases h4 : n < 8
  · have K := bt.hide (co.wcf64_no A n c w h4)
    have e : pl.simple 1 bs = none := by simp [pl.simple]; omega
    rw [e]
    clear hr hn hm h4 e
    go_enter Try.func38, Try.ntmps38
    go_wp2_with fail
    refine (K.out).mono ?_
    rintro e w1 ⟨rfl, rfl⟩
    go_wp2_with fail
    go_ret
    exact ⟨-1, rfl, Below.refl _ _, by simp [Ok]⟩
  · have K := bt.hide (co.wcf64_yes A n c bs _ w hr hn (by omega) (by omega))
    have e : pl.simple 1 bs = some 8 := by simp [pl.simple]; omega
    rw [e]
    clear hr hn hm h4 e
    go_enter Try.func38, Try.ntmps38
    go_wp2_with fail
    refine (K.out).mono ?_
    rintro e w1 ⟨rfl, hb⟩
    have HB := bt.hide hb
    clear hb
    go_wp2_with fail
    go_ret
    exact ⟨8, rfl, HB.out, rfl⟩
theorem fv2 (A : Option Addr) (n c : Nat) (bs : List Nat) (w : World) (num z : Int) (hr : mem.Rd w w.heap.size A bs) (hn : n = bs.length) (hc : n ≤ c) (hm : c ≤ maxLen) :
    Calls Try.prog 38 #[.int .i32 num, .int .i8 2, .slice A n c, .int .i64 z] w (Val w (pl.simple 2 bs)) := by
  have hm' := hm
  simp only [maxLen] at hm'
  rcases hv : pl.rbytes bs with _ | ⟨a, e⟩
  · have K := bt.hide (co.wcb_no A n c bs _ w hr hn hc hm hv)
    have e : pl.simple 2 bs = none := by simp [pl.simple, hv]
    rw [e]
    clear hr hn hm hv e
    go_enter Try.func38, Try.ntmps38
    go_wp2_with fail
    refine (K.out).mono ?_
    rintro e w1 ⟨k, rfl, rfl, h1, _⟩
    go_wp2_with fail
    go_ret
    exact ⟨k, rfl, Below.refl _ _, h1⟩
  · have K := bt.hide (co.wcb_yes A n c bs _ w a e hr hn hc hm hv)
    have e1 : pl.simple 2 bs = some e := by simp [pl.simple, hv]
    rw [e1]
    clear hr hn hm hv e1
    go_enter Try.func38, Try.ntmps38
    go_wp2_with fail
    refine (K.out).mono ?_
    rintro e1 w1 ⟨A1, c1, rfl, rfl, hr1, _, _⟩
    clear hr1
    go_wp2_with fail
    go_ret
    exact ⟨e, rfl, Below.refl _ _, rfl⟩
theorem fv4 (A : Option Addr) (n c : Nat) (bs : List Nat) (w : World) (num z : Int) (hr : mem.Rd w w.heap.size A bs) (hn : n = bs.length) (hc : n ≤ c) (hm : c ≤ maxLen) :
    Calls Try.prog 38 #[.int .i32 num, .int .i8 4, .slice A n c, .int .i64 z] w (Val w (pl.simple 4 bs)) := by
  have hm' := hm
  simp only [maxLen] at hm'
  have e : pl.simple 4 bs = none := by simp [pl.simple]
  rw [e]
  clear hr hn hm e
  go_enter Try.func38, Try.ntmps38
  go_wp2_with fail
  go_ret
  exact ⟨-5, rfl, Below.refl _ _, by simp [Ok]⟩
theorem fv6 (A : Option Addr) (n c : Nat) (bs : List Nat) (w : World) (num z : Int) (hr : mem.Rd w w.heap.size A bs) (hn : n = bs.length) (hc : n ≤ c) (hm : c ≤ maxLen) :
    Calls Try.prog 38 #[.int .i32 num, .int .i8 6, .slice A n c, .int .i64 z] w (Val w (pl.simple 6 bs)) := by
  have hm' := hm
  simp only [maxLen] at hm'
  have e : pl.simple 6 bs = none := by simp [pl.simple]
  rw [e]
  clear hr hn hm e
  go_enter Try.func38, Try.ntmps38
  go_wp2_with fail
  go_ret
  exact ⟨-4, rfl, Below.refl _ _, by simp [Ok]⟩
theorem fv7 (A : Option Addr) (n c : Nat) (bs : List Nat) (w : World) (num z : Int) (hr : mem.Rd w w.heap.size A bs) (hn : n = bs.length) (hc : n ≤ c) (hm : c ≤ maxLen) :
    Calls Try.prog 38 #[.int .i32 num, .int .i8 7, .slice A n c, .int .i64 z] w (Val w (pl.simple 7 bs)) := by
  have hm' := hm
  simp only [maxLen] at hm'
  have e : pl.simple 7 bs = none := by simp [pl.simple]
  rw [e]
  clear hr hn hm e
  go_enter Try.func38, Try.ntmps38
  go_wp2_with fail
  go_ret
  exact ⟨-4, rfl, Below.refl _ _, by simp [Ok]⟩
/-- Any type but a group's begin. -/
theorem fv (A : Option Addr) (n c : Nat) (bs : List Nat) (w : World) (num z : Int) (hr : mem.Rd w w.heap.size A bs) (hn : n = bs.length) (hc : n ≤ c) (hm : c ≤ maxLen) (kd : Nat) (hk : kd < 8) (h3 : kd ≠ 3) :
    Calls Try.prog 38 #[.int .i32 num, .int .i8 (kd : Nat), .slice A n c, .int .i64 z] w (Val w (pl.simple kd bs)) := by
  have h : kd = 0 ∨ kd = 1 ∨ kd = 2 ∨ kd = 4 ∨ kd = 5 ∨ kd = 6 ∨ kd = 7 := by omega
  rcases h with rfl | rfl | rfl | rfl | rfl | rfl | rfl
  · exact fv0 A n c bs w num z hr hn hc hm
  · exact fv1 A n c bs w num z hr hn hc hm
  · exact fv2 A n c bs w num z hr hn hc hm
  · exact fv4 A n c bs w num z hr hn hc hm
  · exact fv5 A n c bs w num z hr hn hc hm
  · exact fv6 A n c bs w num z hr hn hc hm
  · exact fv7 A n c bs w num z hr hn hc hm

theorem ok_none {o : Option Nat} {r : Int} (h : Ok o r) (ho : o = none) : r < 0 := by subst ho; exact h
theorem ok_some {o : Option Nat} {r : Int} {m : Nat} (h : Ok o r) (ho : o = some m) : r = m := by subst ho; exact h
/-- No depth left: an error. -/
theorem fvd0 (A : Option Addr) (n c : Nat) (bs : List Nat) (w : World) (num z : Int) (hr : mem.Rd w w.heap.size A bs) (hn : n = bs.length) (hc : n ≤ c) (hm : c ≤ maxLen) (hz : z < 0) :
    Calls Try.prog 38 #[.int .i32 num, .int .i8 3, .slice A n c, .int .i64 z] w (Val w none) := by
  clear hr hn hm
  go_enter Try.func38, Try.ntmps38
  go_wp2_with fail
  go_ret
  exact ⟨-6, rfl, Below.refl _ _, by simp [Ok]⟩
set_option maxRecDepth 100000 in
set_option maxHeartbeats 400000 in
/-- A group, where what is within it is read. -/
theorem fvg (A : Option Addr) (n c : Nat) (bs : List Nat) (w : World) (num z : Int) (hr : mem.Rd w w.heap.size A bs) (hn : n = bs.length) (hc : n ≤ c) (hm : c ≤ maxLen) (d : Nat) (hz : z = (d : Int)) (hd : d ≤ 10000) (hnum : -2147483648 ≤ num ∧ num ≤ 2147483647)
    (ih : ∀ (A : Option Addr) (n c : Nat) (bs : List Nat) (w : World) (num : Int) (kd : Nat), mem.Rd w w.heap.size A bs → n = bs.length → n ≤ c → c ≤ maxLen → (-2147483648 ≤ num ∧ num ≤ 2147483647) → kd < 8 →
      Calls Try.prog 38 #[.int .i32 num, .int .i8 (kd : Nat), .slice A n c, .int .i64 ((d : Int) - 1)] w (Val w (pl.V d num kd bs))) :
    Calls Try.prog 38 #[.int .i32 num, .int .i8 3, .slice A n c, .int .i64 z] w (Val w ((pl.G (d + 1) num bs).map fun x => x.2)) := by
  subst hz
  have hm' := hm
  simp only [maxLen] at hm'
  obtain ⟨i0, hi, hz0, hz1, hz2⟩ := info_parts co.info8
  have H1 := bt.hide hz1
  have HI := bt.hide hi
  have HR := bt.hide hr
  have HN := bt.hide hn
  have IH := bt.hide ih
  have hdd : ¬ (d : Int) < 0 := by omega
  have hd1 : (d : Int) ≤ 10000 := by omega
  obtain ⟨g0, g1⟩ := hnum
  clear hz0 hz1 hz2 hi hr hn ih hm
  go_enter Try.func38, Try.ntmps38
  go_wp2_with fail
  go_loopw [2] (fun s wr => ∃ (k m c' : Nat) (A' : Option Addr), s = .slice A' m c' ∧ k + m = n ∧ m ≤ c' ∧ c' ≤ 9223372036854775807 ∧ Hid (mem.Rd wr w.heap.size A' (bs.drop k)) ∧ Hid (pl.G (d + 1) num bs = pl.on k (pl.G (d + 1) num (bs.drop k))) ∧ Hid (Below w.heap.size w wr)) (fun s _ => match s with | .slice _ m _ => m | _ => 0)
  case atStart => exact ⟨0, n, c, A, rfl, by omega, hc, by omega, HR, bt.hide (by rw [pl.on_zero, List.drop_zero]), bt.hide (Below.refl _ _)⟩
  case round =>
    obtain ⟨k, m, c', A', rfl, hkm, hmc, hcm, hr, hg, hbel⟩ := hrel
    have hlen : m = (bs.drop k).length := by rw [List.length_drop, ← HN.out]; omega
    rcases hv : pl.rtag (bs.drop k) with _ | ⟨a, kt, mt⟩
    · have K := bt.hide (co.wct_no A' m c' (bs.drop k) _ wr hr.out hlen (by omega) hv)
      have hG : pl.G (d + 1) num bs = none := by rw [hg.out, pl.G_none _ _ _ hv]; rfl
      have HG := bt.hide hG
      clear hv hlen hr hg hG
      go_wp2_with fail
      refine (K.out).mono ?_
      rintro e w1 ⟨q, rfl, rfl, hq, _⟩
      go_wp2_with fail
      go_ret
      exact ⟨q, rfl, hbel.out, by rw [HG.out]; exact hq⟩
    · have hl := pl.rtag_len hv
      obtain ⟨ha1, ha2⟩ : 1 ≤ a ∧ a ≤ 2147483647 := by obtain ⟨_, _, _, _, h1, h2⟩ := pl.rtag_some hv; exact ⟨h1, h2⟩
      have hmt : mt ≤ m := by omega
      have K := bt.hide (co.wct_yes A' m c' (bs.drop k) _ wr a kt mt hr.out hlen (by omega) hv)
      have s1 := fun (W : World) => mem.run_cut (w := W) (A := A') (n := m) (c := c') Try.underlying25 HI.out H1.out mt hmt .i64
      have hcc : m - mt ≤ c' - mt := by omega
      have hnm : m - mt ≤ 9223372036854775807 := by omega
      by_cases hk4 : kt = 4
      · subst hk4
        have hG := hg.out
        rw [pl.G_end d num _ a mt hv] at hG
        by_cases hnum : (a : Int) = num
        · subst hnum
          rw [if_pos rfl] at hG
          have HG := bt.hide hG
          clear hv hlen hr hg hG
          go_wp2_with fail
          refine (K.out).mono ?_
          rintro e w1 ⟨rfl, rfl⟩
          go_wp2_with fail
          go_ret
          exact ⟨_, rfl, hbel.out, by rw [HG.out]; simp [Ok, pl.on]; omega⟩
        · rw [if_neg hnum] at hG
          have HG := bt.hide hG
          have hd2 : ¬ num = (a : Int) := fun h => hnum h.symm
          clear hv hlen hr hg hG
          go_wp2_with fail
          refine (K.out).mono ?_
          rintro e w1 ⟨rfl, rfl⟩
          go_wp2_with fail
          go_ret
          exact ⟨-5, rfl, hbel.out, by rw [HG.out]; simp [Ok, pl.on]⟩
      · have hk4' : ¬ (kt : Int) = 4 := by omega
        have HG := bt.hide (hg.out.trans (by rw [pl.G_on d num _ a kt mt hv hk4]))
        have HR2 := bt.hide (hr.out.cut mt c' (by omega))
        have HL2 := bt.hide (show m - mt = ((bs.drop k).drop mt).length by rw [List.length_drop]; omega)
        have hlt : kt < 8 := hl.2.2.2
        have hbw := hbel.out.size
        have K2 := bt.hide (IH.out (mem.cutA A' c' mt) (m - mt) (c' - mt) ((bs.drop k).drop mt) wr a kt (HR2.out.more hbw) HL2.out hcc (by simp only [maxLen]; omega) (by omega) hlt)
        clear hv hlen hr hg
        go_wp2_with fail
        refine (K.out).mono ?_
        rintro e w1 ⟨rfl, rfl⟩
        go_wp2_with fail
        refine (K2.out).mono ?_
        rintro e w1 ⟨r, rfl, hb1, hok⟩
        have HB1 := bt.hide (hbel.out.trans (hb1.mono hbw))
        rcases hV : pl.V d a kt ((bs.drop k).drop mt) with _ | v
        · have hr0 := ok_none hok hV
          have hG := HG.out
          rw [hV] at hG
          have HG2 := bt.hide hG
          clear hV hok hG HG hb1
          go_wp2_with fail
          go_ret
          exact ⟨r, rfl, HB1.out, by rw [HG2.out]; exact hr0⟩
        · have hvl := pl.V_len _ _ _ _ _ hV
          obtain rfl := ok_some hok hV
          have hvm : v ≤ m - mt := by have := HL2.out; omega
          have hG := HG.out
          rw [hV] at hG
          simp only at hG
          rw [pl.on_on, ← Nat.add_assoc, List.drop_drop, ← Nat.add_assoc] at hG
          have HG2 := bt.hide hG
          have HR3 := bt.hide ((HR2.out.below (B := w.heap.size) (hb1.mono hbw)).cut v (c' - mt) (by have := HL2.out; omega))
          have s2 := fun (W : World) => mem.run_cut (w := W) (A := mem.cutA A' c' mt) (n := m - mt) (c := c' - mt) Try.underlying25 HI.out H1.out v hvm .i64
          clear hV hok hG HG hb1 hvl
          go_wp2_with fail
          go_roundw
          case rel => exact ⟨k + mt + v, m - mt - v, c' - mt - v, mem.cutA (mem.cutA A' c' mt) (c' - mt) v, rfl, by omega, by omega, by omega, bt.hide (by have := HR3.out; rw [List.drop_drop, List.drop_drop] at this; rwa [← Nat.add_assoc] at this), HG2, HB1⟩
          case measure => simp; omega

/-- How long a field's value is, so many groups within each other at most. -/
theorem fvd (d : Nat) : d ≤ 10001 → ∀ (A : Option Addr) (n c : Nat) (bs : List Nat) (w : World) (num : Int) (kd : Nat), mem.Rd w w.heap.size A bs → n = bs.length → n ≤ c → c ≤ maxLen → (-2147483648 ≤ num ∧ num ≤ 2147483647) → kd < 8 →
      Calls Try.prog 38 #[.int .i32 num, .int .i8 (kd : Nat), .slice A n c, .int .i64 ((d : Int) - 1)] w (Val w (pl.V d num kd bs)) := by
  induction d with
  | zero =>
    intro _ A n c bs w num kd hr hn hc hm hnum hk
    by_cases h3 : kd = 3
    · subst h3
      exact fvd0 A n c bs w num _ hr hn hc hm (by omega)
    · rw [pl.V_simple _ _ _ _ h3]
      exact fv A n c bs w num _ hr hn hc hm kd hk h3
  | succ d ih =>
    intro hd A n c bs w num kd hr hn hc hm hnum hk
    by_cases h3 : kd = 3
    · subst h3
      exact fvg A n c bs w num _ hr hn hc hm d (by omega) (by omega) hnum (ih (by omega))
    · rw [pl.V_simple _ _ _ _ h3]
      exact fv A n c bs w num _ hr hn hc hm kd hk h3
theorem wcfv (A : Option Addr) (n c : Nat) (bs : List Nat) (w : World) (num : Int) (kd : Nat) (hr : mem.Rd w w.heap.size A bs) (hn : n = bs.length) (hc : n ≤ c) (hm : c ≤ maxLen) (hnum : -2147483648 ≤ num ∧ num ≤ 2147483647) (hk : kd < 8) :
    Calls Try.prog 31 #[.int .i32 num, .int .i8 (kd : Nat), .slice A n c] w (Val w (pl.V 10001 num kd bs)) := by
  have K := bt.hide (fvd 10001 (Nat.le_refl _) A n c bs w num kd hr hn hc hm hnum hk)
  clear hr hn hm hnum
  go_enter Try.func31, Try.ntmps31
  go_wp2_with fail
  refine (K.out).mono ?_
  rintro e w1 ⟨r, rfl, hb, hok⟩
  have HB := bt.hide hb
  have HO := bt.hide hok
  clear hb hok
  go_wp2_with fail
  go_ret
  exact ⟨r, rfl, HB.out, HO.out⟩
/-- A field: its number, its type, how long it is. -/
def F (bs : List Nat) : Option (Nat × Nat × Nat) :=
  match pl.rtag bs with
  | none => none
  | some x => (pl.V 10001 x.1 x.2.1 (bs.drop x.2.2)).map fun v => (x.1, x.2.1, x.2.2 + v)
theorem F_none {bs : List Nat} (h : pl.rtag bs = none) : F bs = none := by simp [F, h]
theorem F_tag {bs : List Nat} {a k m : Nat} (h : pl.rtag bs = some (a, k, m)) : F bs = (pl.V 10001 a k (bs.drop m)).map fun v => (a, k, m + v) := by simp [F, h]
def Fld (w : World) (o : Option (Nat × Nat × Nat)) (e : Ending) (w' : World) : Prop := ∃ a k n : Int, e = .returned (.tuple #[.int .i32 a, .int .i8 k, .int .i64 n]) ∧ Below w.heap.size w w' ∧
  match o with | none => n < 0 | some x => a = x.1 ∧ k = x.2.1 ∧ n = x.2.2
theorem wcfl (A : Option Addr) (n c : Nat) (bs : List Nat) (w : World) (hr : mem.Rd w w.heap.size A bs) (hn : n = bs.length) (hc : n ≤ c) (hm : c ≤ maxLen) :
    Calls Try.prog 30 #[.slice A n c] w (Fld w (F bs)) := by
  have hm' := hm
  simp only [maxLen] at hm'
  obtain ⟨i0, hi, hz0, hz1, hz2⟩ := info_parts co.info8
  rcases hv : pl.rtag bs with _ | ⟨a, kt, mt⟩
  · have K := bt.hide (co.wct_no A n c bs _ w hr hn (by omega) hv)
    have HF := bt.hide (F_none hv)
    clear hr hn hm hv hi hz0 hz1 hz2
    go_enter Try.func30, Try.ntmps30
    go_wp2_with fail
    refine (K.out).mono ?_
    rintro e w1 ⟨q, rfl, rfl, hq, _⟩
    go_wp2_with fail
    refine bodyPost_ret (results_tmp3 rfl _ _ _) rfl ?_
    exact ⟨0, 0, q, rfl, Below.refl _ _, by rw [HF.out]; exact hq⟩
  · have hl := pl.rtag_len hv
    obtain ⟨ha1, ha2⟩ : 1 ≤ a ∧ a ≤ 2147483647 := by obtain ⟨_, _, _, _, h1, h2⟩ := pl.rtag_some hv; exact ⟨h1, h2⟩
    have hmt : mt ≤ n := by omega
    have hcc : n - mt ≤ c - mt := by omega
    have K := bt.hide (co.wct_yes A n c bs _ w a kt mt hr hn (by omega) hv)
    have s1 := fun (W : World) => mem.run_cut (w := W) (A := A) (n := n) (c := c) Try.underlying25 hi hz1 mt hmt .i64
    have hdl : n - mt = (bs.drop mt).length := by rw [List.length_drop]; omega
    have K2 := bt.hide (wcfv (mem.cutA A c mt) (n - mt) (c - mt) (bs.drop mt) w a kt (hr.cut mt c (by omega)) hdl hcc (by simp only [maxLen]; omega) (by omega) hl.2.2.2)
    have HF := bt.hide (F_tag hv)
    have HD := bt.hide hdl
    clear hr hn hm hv hi hz0 hz1 hz2 hdl
    go_enter Try.func30, Try.ntmps30
    go_wp2_with fail
    refine (K.out).mono ?_
    rintro e w1 ⟨rfl, rfl⟩
    go_wp2_with fail
    refine (K2.out).mono ?_
    rintro e w1 ⟨r, rfl, hb, hok⟩
    have HB := bt.hide hb
    clear hb
    rcases hV : pl.V 10001 a kt (bs.drop mt) with _ | v
    · have hr0 := ok_none hok hV
      have HF2 := bt.hide (HF.out.trans (by rw [hV]; rfl) : F bs = none)
      clear hV hok
      go_wp2_with fail
      refine bodyPost_ret (results_tmp3 rfl _ _ _) rfl ?_
      exact ⟨0, 0, r, rfl, HB.out, by rw [HF2.out]; exact hr0⟩
    · have hvl := pl.V_len _ _ _ _ _ hV
      obtain rfl := ok_some hok hV
      have HF2 := bt.hide (HF.out.trans (by rw [hV]; rfl) : F bs = some (a, kt, mt + v))
      have hvm : v ≤ n - mt := by have := HD.out; omega
      clear hV hok hvl
      go_wp2_with fail
      refine bodyPost_ret (results_tmp3 rfl _ _ _) rfl ?_
      exact ⟨a, kt, mt + v, rfl, HB.out, by rw [HF2.out]; simp⟩
theorem icfl (A : Option Addr) (n c : Nat) (bs : List Nat) (w : World) (hr : mem.Rd w w.heap.size A bs) (hn : n = bs.length) (hc : n ≤ c) (hm : c ≤ maxLen) :
    Calls Try.prog 24 #[.slice A n c] w (Fld w (F bs)) := by
  have K := bt.hide (wcfl A n c bs w hr hn hc hm)
  clear hr hn hm
  go_enter Try.func24, Try.ntmps24
  go_wp2_with fail
  refine (K.out).mono ?_
  rintro e w1 ⟨a, k, m, rfl, hb, hok⟩
  have HB := bt.hide hb
  have HO := bt.hide hok
  clear hb hok
  go_wp2_with fail
  refine bodyPost_ret (results_tmp3 rfl _ _ _) rfl ?_
  exact ⟨a, k, m, rfl, HB.out, HO.out⟩
end Go.Proofs.Ytacdclkhhgjkbaa.va
