/-
  The contracts of the reference's functions that read values, groups, fields.
-/
import Derived.Test.YtknjnpmhbgeikaaPlainV
import Derived.Test.YtknjnpmhbgeikaaSpecR2
import Derived.OpenShut
namespace Go.Proofs.Ytknjnpmhbgeikaa.re
open Go.RowKit
set_option linter.unusedVariables false

/-- As deep as the bytes may reach. -/
def GA (num : Int) (bs : List Nat) : Option (Nat × Nat) := pl.G (bs.length + 1) num bs
def VA (num : Int) (kd : Nat) (bs : List Nat) : Option Nat := pl.V (bs.length + 1) num kd bs
/-- A length and 'true'; some length and 'false'. -/
def Rv (w : World) (o : Option Nat) (e : Ending) (w' : World) : Prop := ∃ (r : Nat) (b : Bool), e = .returned (.tuple #[.int .i64 r, .bool b]) ∧ w = w' ∧ r ≤ 9223372036854775 ∧
  match o with | none => b = false | some m => b = true ∧ r = m
def Rg (w : World) (o : Option (Nat × Nat)) (e : Ending) (w' : World) : Prop := ∃ (p q : Nat) (b : Bool), e = .returned (.tuple #[.int .i64 p, .int .i64 q, .bool b]) ∧ w = w' ∧ q ≤ 9223372036854775 ∧
  match o with | none => b = false | some m => b = true ∧ p = m.1 ∧ q = m.2

theorem VA_simple (num : Int) (kd : Nat) (bs : List Nat) (h : kd ≠ 3) : VA num kd bs = pl.simple kd bs := pl.V_simple _ _ _ _ h
theorem GA_none (num : Int) (bs : List Nat) (h : pl.rtag bs = none) : GA num bs = none := pl.G_none _ _ _ h
theorem GA_end (num : Int) (bs : List Nat) (a m : Nat) (h : pl.rtag bs = some (a, 4, m)) : GA num bs = if (a : Int) = num then some (0, m) else none := pl.G_end _ _ _ _ _ h
theorem GA_on (num : Int) (bs : List Nat) (a k m : Nat) (h : pl.rtag bs = some (a, k, m)) (hk : k ≠ 4) :
    GA num bs = match VA a k (bs.drop m) with | none => none | some v => pl.on (m + v) (GA num (bs.drop (m + v))) := by
  have hl := pl.rtag_len h
  unfold GA VA
  rw [pl.G_on _ _ _ a k m h hk, pl.V_enough bs.length ((bs.drop m).length + 1) _ _ (bs.drop m) (by simp; omega) (by omega)]
  cases hv : pl.V ((bs.drop m).length + 1) a k (bs.drop m) with
  | none => rfl
  | some v =>
    simp only
    rw [pl.G_enough (bs.length + 1) ((bs.drop (m + v)).length + 1) _ (bs.drop (m + v)) (by simp; omega) (by omega)]
theorem VA_len (num : Int) (kd : Nat) (bs : List Nat) (m : Nat) (h : VA num kd bs = some m) : m ≤ bs.length := pl.V_len _ _ _ _ _ h

theorem rv0 (A : Option Addr) (n c : Nat) (bs : List Nat) (B : Nat) (w : World) (num : Int) (hr : mem.Rd w B A bs) (hn : n = bs.length) (hm : n ≤ 2147483647) :
    Calls Try.prog 25 #[.int .i32 num, .int .i8 0, .slice A n c] w (Rv w (pl.simple 0 bs)) := by
  rcases hv : pl.rv 10 bs with _ | x
  · have K := bt.hide (sr.srv_no A n c bs B w hr hn (by omega) hv)
    have e : pl.simple 0 bs = none := by simp [pl.simple, hv]
    rw [e]
    clear hr hn hm hv e
    go_enter Try.func25, Try.ntmps25
    go_wp2_with fail
    refine (K.out).mono ?_
    rintro e w1 ⟨rfl, rfl⟩
    go_wp2_with fail
    go_ret2
    exact ⟨0, false, rfl, rfl, by omega, rfl⟩
  · have hl := pl.rv_some_len 10 bs x.1 x.2 hv
    have K := bt.hide (sr.srv_yes A n c bs B w x hr hn (by omega) hv)
    have e : pl.simple 0 bs = some x.2 := by simp [pl.simple, hv]
    rw [e]
    clear hr hn hm hv e
    go_enter Try.func25, Try.ntmps25
    go_wp2_with fail
    refine (K.out).mono ?_
    rintro e w1 ⟨rfl, rfl⟩
    go_wp2_with fail
    go_ret2
    exact ⟨x.2, true, rfl, rfl, by omega, rfl, rfl⟩
theorem rv2 (A : Option Addr) (n c : Nat) (bs : List Nat) (B : Nat) (w : World) (num : Int) (hr : mem.Rd w B A bs) (hn : n = bs.length) (hm : n ≤ 2147483647) :
    Calls Try.prog 25 #[.int .i32 num, .int .i8 2, .slice A n c] w (Rv w (pl.simple 2 bs)) := by
  rcases hv : pl.rbytes bs with _ | ⟨a, e⟩
  · have K := bt.hide (sr.srb_no A n c bs B w hr hn (by omega) hv)
    have e : pl.simple 2 bs = none := by simp [pl.simple, hv]
    rw [e]
    clear hr hn hm hv e
    go_enter Try.func25, Try.ntmps25
    go_wp2_with fail
    refine (K.out).mono ?_
    rintro e w1 ⟨rfl, rfl⟩
    go_wp2_with fail
    go_ret2
    exact ⟨0, false, rfl, rfl, by omega, rfl⟩
  · have hl := pl.rbytes_len hv
    have K := bt.hide (sr.srb_yes A n c bs B w a e hr hn (by omega) hv)
    have e1 : pl.simple 2 bs = some e := by simp [pl.simple, hv]
    rw [e1]
    have he : e ≤ 2147483647 := by omega
    clear hr hm hv e1 hn hl
    go_enter Try.func25, Try.ntmps25
    go_wp2_with fail
    refine (K.out).mono ?_
    rintro e1 w1 ⟨rfl, rfl⟩
    go_wp2_with fail
    go_ret2
    exact ⟨e, true, rfl, rfl, by omega, rfl, rfl⟩
theorem rv5 (A : Option Addr) (n c : Nat) (bs : List Nat) (w : World) (num : Int) (hn : n = bs.length) (hm : n ≤ 2147483647) :
    Calls Try.prog 25 #[.int .i32 num, .int .i8 5, .slice A n c] w (Rv w (pl.simple 5 bs)) := by
  by_cases h : 4 ≤ n
  · have e : pl.simple 5 bs = some 4 := by simp [pl.simple]; omega
    have h' : (4 : Int) ≤ (n : Int) := by omega
    rw [e]
    clear hn e h
    go_enter Try.func25, Try.ntmps25
    go_wp2_with fail
    go_ret2
    exact ⟨4, true, rfl, rfl, by omega, rfl, rfl⟩
  · have e : pl.simple 5 bs = none := by simp [pl.simple]; omega
    have h' : ¬ (4 : Int) ≤ (n : Int) := by omega
    rw [e]
    clear hn e h
    go_enter Try.func25, Try.ntmps25
    go_wp2_with fail
    go_ret2
    exact ⟨4, false, rfl, rfl, by omega, rfl⟩
theorem rv1 (A : Option Addr) (n c : Nat) (bs : List Nat) (w : World) (num : Int) (hn : n = bs.length) (hm : n ≤ 2147483647) :
    Calls Try.prog 25 #[.int .i32 num, .int .i8 1, .slice A n c] w (Rv w (pl.simple 1 bs)) := by
  by_cases h : 8 ≤ n
  · have e : pl.simple 1 bs = some 8 := by simp [pl.simple]; omega
    have h' : (8 : Int) ≤ (n : Int) := by omega
    rw [e]
    clear hn e h
    go_enter Try.func25, Try.ntmps25
    go_wp2_with fail
    go_ret2
    exact ⟨8, true, rfl, rfl, by omega, rfl, rfl⟩
  · have e : pl.simple 1 bs = none := by simp [pl.simple]; omega
    have h' : ¬ (8 : Int) ≤ (n : Int) := by omega
    rw [e]
    clear hn e h
    go_enter Try.func25, Try.ntmps25
    go_wp2_with fail
    go_ret2
    exact ⟨8, false, rfl, rfl, by omega, rfl⟩
theorem rv4 (A : Option Addr) (n c : Nat) (bs : List Nat) (w : World) (num : Int) :
    Calls Try.prog 25 #[.int .i32 num, .int .i8 4, .slice A n c] w (Rv w (pl.simple 4 bs)) := by
  have e : pl.simple 4 bs = none := by simp [pl.simple]
  rw [e]
  clear e
  go_enter Try.func25, Try.ntmps25
  go_wp2_with fail
  go_ret2
  exact ⟨0, false, rfl, rfl, by omega, rfl⟩
theorem rv6 (A : Option Addr) (n c : Nat) (bs : List Nat) (w : World) (num : Int) :
    Calls Try.prog 25 #[.int .i32 num, .int .i8 6, .slice A n c] w (Rv w (pl.simple 6 bs)) := by
  have e : pl.simple 6 bs = none := by simp [pl.simple]
  rw [e]
  clear e
  go_enter Try.func25, Try.ntmps25
  go_wp2_with fail
  go_ret2
  exact ⟨0, false, rfl, rfl, by omega, rfl⟩
theorem rv7 (A : Option Addr) (n c : Nat) (bs : List Nat) (w : World) (num : Int) :
    Calls Try.prog 25 #[.int .i32 num, .int .i8 7, .slice A n c] w (Rv w (pl.simple 7 bs)) := by
  have e : pl.simple 7 bs = none := by simp [pl.simple]
  rw [e]
  clear e
  go_enter Try.func25, Try.ntmps25
  go_wp2_with fail
  go_ret2
  exact ⟨0, false, rfl, rfl, by omega, rfl⟩
theorem rvs (A : Option Addr) (n c : Nat) (bs : List Nat) (B : Nat) (w : World) (num : Int) (kd : Nat) (hk : kd < 8) (h3 : kd ≠ 3) (hr : mem.Rd w B A bs) (hn : n = bs.length) (hm : n ≤ 2147483647) :
    Calls Try.prog 25 #[.int .i32 num, .int .i8 (kd : Nat), .slice A n c] w (Rv w (VA num kd bs)) := by
  rw [VA_simple _ _ _ h3]
  have h : kd = 0 ∨ kd = 1 ∨ kd = 2 ∨ kd = 4 ∨ kd = 5 ∨ kd = 6 ∨ kd = 7 := by omega
  rcases h with rfl | rfl | rfl | rfl | rfl | rfl | rfl
  · exact rv0 A n c bs B w num hr hn hm
  · exact rv1 A n c bs w num hn hm
  · exact rv2 A n c bs B w num hr hn hm
  · exact rv4 A n c bs w num
  · exact rv5 A n c bs w num hn hm
  · exact rv6 A n c bs w num
  · exact rv7 A n c bs w num
/-- A value that is a group, where the group is read. -/
theorem rv3 (A : Option Addr) (n c : Nat) (bs : List Nat) (w : World) (num : Int) (K : Calls Try.prog 32 #[.int .i32 num, .slice A n c] w (Rg w (GA num bs))) :
    Calls Try.prog 25 #[.int .i32 num, .int .i8 3, .slice A n c] w (Rv w (VA num 3 bs)) := by
  have K := bt.hide K
  have HV := bt.hide (show VA num 3 bs = (GA num bs).map fun x => x.2 from rfl)
  rename_i K0
  clear K0
  go_enter Try.func25, Try.ntmps25
  go_wp2_with fail
  refine (K.out).mono ?_
  rintro e w1 ⟨p, q, b, rfl, rfl, hq, ho⟩
  have HO := bt.hide ho
  clear ho
  go_wp2_with fail
  go_ret2
  refine ⟨q, b, rfl, rfl, hq, ?_⟩
  have := HO.out
  rw [HV.out]
  cases hg : GA num bs with
  | none => rw [hg] at this; exact this
  | some y => rw [hg] at this; exact ⟨this.1, this.2.2⟩
set_option maxRecDepth 100000 in
set_option maxHeartbeats 400000 in
/-- A group, where the values within it are read. -/
theorem rgr (A : Option Addr) (n c : Nat) (bs : List Nat) (B : Nat) (w : World) (num : Int) (hr : mem.Rd w B A bs) (hn : n = bs.length) (hc : n ≤ c) (hm : n ≤ 2147483647) (hnum : -2147483648 ≤ num ∧ num ≤ 2147483647)
    (ih : ∀ (A : Option Addr) (m c : Nat) (ds : List Nat) (num : Int) (kd : Nat), mem.Rd w B A ds → m = ds.length → m ≤ c → m < n → (-2147483648 ≤ num ∧ num ≤ 2147483647) → kd < 8 →
      Calls Try.prog 25 #[.int .i32 num, .int .i8 (kd : Nat), .slice A m c] w (Rv w (VA num kd ds))) :
    Calls Try.prog 32 #[.int .i32 num, .slice A n c] w (Rg w (GA num bs)) := by
  obtain ⟨i0, hi, hz0, hz1, hz2⟩ := info_parts co.info8
  have H1 := bt.hide hz1
  have HI := bt.hide hi
  have HR := bt.hide hr
  have HN := bt.hide hn
  have IH := bt.hide ih
  have hmi : (n : Int) ≤ 2147483647 := by omega
  obtain ⟨g0, g1⟩ := hnum
  clear hz0 hz1 hz2 hi hr hn ih
  go_enter Try.func32, Try.ntmps32
  go_wp2_with fail
  go_loop [7] (fun s => ∃ k : Nat, s = .int .i64 k ∧ k ≤ n ∧ Hid (GA num bs = pl.on k (GA num (bs.drop k)))) (fun s => (n - intOf s).toNat)
  case atStart => exact ⟨0, rfl, by omega, bt.hide (by rw [pl.on_zero, List.drop_zero])⟩
  case round =>
    obtain ⟨k, rfl, hkn, hg⟩ := hrel
    have hlen : n - k = (bs.drop k).length := by rw [List.length_drop, ← HN.out]
    have HRk := bt.hide (HR.out.cut k c (by rw [← HN.out]; exact hc))
    have s1 := fun (W : World) => mem.run_cut (w := W) (A := A) (n := n) (c := c) Try.underlying23 HI.out H1.out k hkn .i64
    have hki : (k : Int) ≤ (n : Int) := by omega
    rcases hv : pl.rtag (bs.drop k) with _ | ⟨a, kt, mt⟩
    · have K := bt.hide (sr.srt_no (mem.cutA A c k) (n - k) (c - k) (bs.drop k) _ w HRk.out hlen (by omega) hv)
      have HG := bt.hide (show GA num bs = none by rw [hg.out, GA_none _ _ hv]; rfl)
      clear hv hlen hg
      go_wp2_with fail
      refine (K.out).mono ?_
      rintro e w1 ⟨rfl, rfl⟩
      go_wp2_with fail
      refine bodyPost_ret (results_tmp3 rfl _ _ _) rfl ?_
      exact ⟨0, 0, false, rfl, rfl, by omega, by rw [HG.out]⟩
    · have hl := pl.rtag_len hv
      obtain ⟨ha1, ha2⟩ : 1 ≤ a ∧ a ≤ 2147483647 := by obtain ⟨_, _, _, _, h1, h2⟩ := pl.rtag_some hv; exact ⟨h1, h2⟩
      have K := bt.hide (sr.srt_yes (mem.cutA A c k) (n - k) (c - k) (bs.drop k) _ w a kt mt HRk.out hlen (by omega) hv)
      have hkm : k + mt ≤ n := by omega
      by_cases hk4 : kt = 4
      · subst hk4
        have HG := bt.hide (hg.out.trans (by rw [GA_end num _ a mt hv]))
        by_cases hnum : (a : Int) = num
        · subst hnum
          clear hv hlen hg
          go_wp2_with fail
          refine (K.out).mono ?_
          rintro e w1 ⟨rfl, rfl⟩
          go_wp2_with fail
          refine bodyPost_ret (results_tmp3 rfl _ _ _) rfl ?_
          exact ⟨k, k + mt, true, by simp, rfl, by omega, by rw [HG.out]; simp [pl.on]⟩
        · have hd2 : decide ((a : Int) = num) = false := by simpa using hnum
          have HNU := bt.hide hnum
          clear hv hlen hg hnum
          go_wp2_with fail
          refine (K.out).mono ?_
          rintro e w1 ⟨rfl, rfl⟩
          go_wp2_with fail
          refine bodyPost_ret (results_tmp3 rfl _ _ _) rfl ?_
          exact ⟨k, k + mt, false, by simp [HNU.out], rfl, by omega, by rw [HG.out, if_neg HNU.out]; rfl⟩
      · have hk4' : ¬ (kt : Int) = 4 := by omega
        have HG := bt.hide (hg.out.trans (by rw [GA_on num _ a kt mt hv hk4]))
        have hlt : kt < 8 := hl.2.2.2
        have hdl : n - (k + mt) = ((bs.drop k).drop mt).length := by rw [List.length_drop, List.length_drop, ← HN.out]; omega
        have HRm := bt.hide (show mem.Rd w B (mem.cutA A c (k + mt)) ((bs.drop k).drop mt) by rw [List.drop_drop]; exact HR.out.cut (k + mt) c (by rw [← HN.out]; exact hc))
        have s2 := fun (W : World) => mem.run_cut (w := W) (A := A) (n := n) (c := c) Try.underlying23 HI.out H1.out (k + mt) hkm .i64
        simp only [Int.natCast_add] at s2
        have K2 := bt.hide (IH.out (mem.cutA A c (k + mt)) (n - (k + mt)) (c - (k + mt)) ((bs.drop k).drop mt) a kt HRm.out hdl (by omega) (by omega) (by omega) hlt)
        have HD := bt.hide hdl
        clear hv hlen hg hdl
        go_wp2_with fail
        refine (K.out).mono ?_
        rintro e w1 ⟨rfl, rfl⟩
        go_wp2_with fail
        refine (K2.out).mono ?_
        rintro e w1 ⟨r, b, rfl, rfl, hr2, hok⟩
        rcases hV : VA a kt ((bs.drop k).drop mt) with _ | v
        · rw [hV] at hok
          subst hok
          have HG2 := bt.hide (HG.out.trans (by rw [hV]))
          clear hV
          go_wp2_with fail
          refine bodyPost_ret (results_tmp3 rfl _ _ _) rfl ?_
          exact ⟨0, 0, false, rfl, rfl, by omega, by rw [HG2.out]; rfl⟩
        · have hvl := VA_len _ _ _ _ hV
          rw [hV] at hok
          obtain ⟨rfl, rfl⟩ := hok
          have hvm : k + mt + r ≤ n := by have := HD.out; omega
          have hG := HG.out
          rw [hV] at hG
          simp only at hG
          rw [pl.on_on, ← Nat.add_assoc, List.drop_drop, ← Nat.add_assoc] at hG
          have HG2 := bt.hide hG
          clear hV hG hvl
          go_wp2_with fail
          go_round
          case rel => exact ⟨k + mt + r, by simp, hvm, HG2⟩
          case measure => simp [intOf] <;> omega
/-- Values and groups, in one. -/
theorem both (N : Nat) : ∀ (A : Option Addr) (n c : Nat) (bs : List Nat) (B : Nat) (w : World) (num : Int), n < N → mem.Rd w B A bs → n = bs.length → n ≤ c → n ≤ 2147483647 → (-2147483648 ≤ num ∧ num ≤ 2147483647) →
    Calls Try.prog 32 #[.int .i32 num, .slice A n c] w (Rg w (GA num bs)) := by
  induction N with
  | zero => intro A n c bs B w num h; omega
  | succ N ihN =>
    intro A n c bs B w num hN hr hn hc hm hnum
    refine rgr A n c bs B w num hr hn hc hm hnum fun A2 m c2 ds num2 kd hr2 hl2 hc2 hlt hnum2 hk => ?_
    by_cases h3 : kd = 3
    · subst h3
      exact rv3 A2 m c2 ds w num2 (ihN A2 m c2 ds B w num2 (by omega) hr2 hl2 hc2 (by omega) hnum2)
    · exact rvs A2 m c2 ds B w num2 kd hk h3 hr2 hl2 (by omega)
theorem sgr (A : Option Addr) (n c : Nat) (bs : List Nat) (B : Nat) (w : World) (num : Int) (hr : mem.Rd w B A bs) (hn : n = bs.length) (hc : n ≤ c) (hm : n ≤ 2147483647) (hnum : -2147483648 ≤ num ∧ num ≤ 2147483647) :
    Calls Try.prog 32 #[.int .i32 num, .slice A n c] w (Rg w (GA num bs)) := both (n + 1) A n c bs B w num (by omega) hr hn hc hm hnum
theorem sva (A : Option Addr) (n c : Nat) (bs : List Nat) (B : Nat) (w : World) (num : Int) (kd : Nat) (hr : mem.Rd w B A bs) (hn : n = bs.length) (hc : n ≤ c) (hm : n ≤ 2147483647) (hnum : -2147483648 ≤ num ∧ num ≤ 2147483647) (hk : kd < 8) :
    Calls Try.prog 25 #[.int .i32 num, .int .i8 (kd : Nat), .slice A n c] w (Rv w (VA num kd bs)) := by
  by_cases h3 : kd = 3
  · subst h3
    exact rv3 A n c bs w num (sgr A n c bs B w num hr hn hc hm hnum)
  · exact rvs A n c bs B w num kd hk h3 hr hn hm
/-- A field as the reference reads it. -/
def FA (bs : List Nat) : Option (Nat × Nat × Nat) :=
  match pl.rtag bs with
  | none => none
  | some x => (VA x.1 x.2.1 (bs.drop x.2.2)).map fun v => (x.1, x.2.1, x.2.2 + v)
theorem FA_none {bs : List Nat} (h : pl.rtag bs = none) : FA bs = none := by simp [FA, h]
theorem FA_tag {bs : List Nat} {a k m : Nat} (h : pl.rtag bs = some (a, k, m)) : FA bs = (VA a k (bs.drop m)).map fun v => (a, k, m + v) := by simp [FA, h]
def Rf (w : World) (o : Option (Nat × Nat × Nat)) (e : Ending) (w' : World) : Prop := ∃ (a k n : Int) (b : Bool), e = .returned (.tuple #[.int .i32 a, .int .i8 k, .int .i64 n, .bool b]) ∧ w = w' ∧
  match o with | none => b = false | some x => b = true ∧ a = x.1 ∧ k = x.2.1 ∧ n = x.2.2
theorem srfl (A : Option Addr) (n c : Nat) (bs : List Nat) (B : Nat) (w : World) (hr : mem.Rd w B A bs) (hn : n = bs.length) (hc : n ≤ c) (hm : n ≤ 2147483647) :
    Calls Try.prog 28 #[.slice A n c] w (Rf w (FA bs)) := by
  obtain ⟨i0, hi, hz0, hz1, hz2⟩ := info_parts co.info8
  rcases hv : pl.rtag bs with _ | ⟨a, kt, mt⟩
  · have K := bt.hide (sr.srt_no A n c bs _ w hr hn (by omega) hv)
    have HF := bt.hide (FA_none hv)
    clear hr hn hm hv hi hz0 hz1 hz2
    go_enter Try.func28, Try.ntmps28
    go_wp2_with fail
    refine (K.out).mono ?_
    rintro e w1 ⟨rfl, rfl⟩
    go_wp2_with fail
    refine bodyPost_ret (sr.results_tmp4 rfl _ _ _) rfl ?_
    exact ⟨0, 0, 0, false, rfl, rfl, by rw [HF.out]⟩
  · have hl := pl.rtag_len hv
    obtain ⟨ha1, ha2⟩ : 1 ≤ a ∧ a ≤ 2147483647 := by obtain ⟨_, _, _, _, h1, h2⟩ := pl.rtag_some hv; exact ⟨h1, h2⟩
    have hmt : mt ≤ n := by omega
    have hcc : n - mt ≤ c - mt := by omega
    have K := bt.hide (sr.srt_yes A n c bs _ w a kt mt hr hn (by omega) hv)
    have s1 := fun (W : World) => mem.run_cut (w := W) (A := A) (n := n) (c := c) Try.underlying23 hi hz1 mt hmt .i64
    have hdl : n - mt = (bs.drop mt).length := by rw [List.length_drop]; omega
    have K2 := bt.hide (sva (mem.cutA A c mt) (n - mt) (c - mt) (bs.drop mt) B w a kt (hr.cut mt c (by omega)) hdl hcc (by omega) (by omega) hl.2.2.2)
    have HF := bt.hide (FA_tag hv)
    clear hr hn hm hv hi hz0 hz1 hz2 hdl
    go_enter Try.func28, Try.ntmps28
    go_wp2_with fail
    refine (K.out).mono ?_
    rintro e w1 ⟨rfl, rfl⟩
    go_wp2_with fail
    refine (K2.out).mono ?_
    rintro e w1 ⟨r, b, rfl, rfl, hr2, hok⟩
    have HO := bt.hide hok
    clear hok
    go_wp2_with fail
    refine bodyPost_ret (sr.results_tmp4 rfl _ _ _) rfl ?_
    refine ⟨a, kt, mt + r, b, rfl, rfl, ?_⟩
    have h := HO.out
    rw [HF.out]
    cases hV : VA a kt (bs.drop mt) with
    | none => rw [hV] at h; exact h
    | some v =>
      rw [hV] at h
      exact ⟨h.1, rfl, rfl, by simp [h.2]⟩
end Go.Proofs.Ytknjnpmhbgeikaa.re
