/-
  Plain data, no program in sight: fields as they are read out of memory, their bytes, and how those are parsed.
-/
import Derived.Test.YtacdclkhhgjkbaaPlainG
import GoSem.ClaimWide
namespace Go.Proofs.Ytacdclkhhgjkbaa.pl
section
variable {H : Type}

/-- A number, as a datum. -/
def numOf : DataW H → Int
  | .lit (.int _ n) => n
  | _ => 0
/-- A list's elements, as data. -/
def elemsOf : DataW H → List (DataW H)
  | .slice es _ => es
  | _ => []
def partOf (d : DataW H) (i : Nat) : DataW H :=
  match d with
  | .agg ps => ps.getD i .nil
  | _ => .nil

def fNum (d : DataW H) : Int := numOf (partOf d 0)
def fKind (d : DataW H) : Int := numOf (partOf d 1)
def fV (d : DataW H) : Nat := (numOf (partOf d 2)).toNat
def fData (d : DataW H) : List Nat := (elemsOf (partOf d 3)).map fun x => (numOf x).toNat
def fKids (d : DataW H) : List (DataW H) := elemsOf (partOf d 4)

def numOk (n : Int) : Bool := decide (1 ≤ n) && decide (n ≤ 536870911)

/-- Fields that can be written, at most so deep. -/
def fieldsOk : Nat → List (DataW H) → Bool
  | 0, l => l.all fun d => numOk (fNum d) && decide (0 ≤ fKind d) && decide (fKind d ≤ 5) && decide (fKind d ≠ 4) && decide (fKind d ≠ 3)
  | n + 1, l => l.all fun d => numOk (fNum d) && decide (0 ≤ fKind d) && decide (fKind d ≤ 5) && decide (fKind d ≠ 4) && (decide (fKind d ≠ 3) || fieldsOk n (fKids d))

def fix (v : Nat) : Nat → List Nat
  | 0 => []
  | k + 1 => v % 256 :: fix (v / 256) k

def tagN (a k : Int) : Nat := a.toNat * 8 + k.toNat

/-- The bytes of a field's value, given those of its kids. -/
def valB (kids : List (DataW H) → List Nat) (d : DataW H) : List Nat :=
  if fKind d = 0 then enc (fV d)
  else if fKind d = 5 then fix (fV d) 4
  else if fKind d = 1 then fix (fV d) 8
  else if fKind d = 2 then enc (fData d).length ++ fData d
  else kids (fKids d) ++ enc (tagN (fNum d) 4)

def fldB (kids : List (DataW H) → List Nat) (d : DataW H) : List Nat := enc (tagN (fNum d) (fKind d)) ++ valB kids d

/-- The bytes of fields, at most so deep. -/
def fieldsB : Nat → List (DataW H) → List Nat
  | 0, l => l.flatMap (fldB fun _ => [])
  | n + 1, l => l.flatMap (fldB (fieldsB n))

end

/-! ### What is written is read -/

theorem rtag_enc (a : Nat) (k : Nat) (more : List Nat) (h1 : 1 ≤ a) (h2 : a ≤ 2147483647) (hk : k < 8) : rtag (enc (a * 8 + k) ++ more) = some (a, k, (enc (a * 8 + k)).length) := by
  unfold rtag
  rw [rv_enc _ _ (by omega)]
  simp only
  rw [if_neg (by omega)]
  simp only [Option.some.injEq, Prod.mk.injEq, and_true]
  omega

theorem rtag_cut (a k n : Nat) (h : n < (enc (a * 8 + k)).length) : rtag ((enc (a * 8 + k)).take n) = none := by
  unfold rtag
  rw [rv_enc_cut _ _ h]

theorem rbytes_enc (data more : List Nat) (h : data.length < 18446744073709551616) : rbytes (enc data.length ++ (data ++ more)) = some ((enc data.length).length, (enc data.length ++ data).length) := by
  unfold rbytes
  rw [rv_enc _ _ h]
  simp only
  rw [if_neg (by simp only [List.length_append]; omega)]
  simp

theorem rbytes_cut (data : List Nat) (n : Nat) (h : data.length < 18446744073709551616) (hn : n < (enc data.length ++ data).length) : rbytes ((enc data.length ++ data).take n) = none := by
  unfold rbytes
  rcases Nat.lt_or_ge n (enc data.length).length with h1 | h1
  · rw [List.take_append_of_le_length (by omega), rv_enc_cut _ _ h1]
  · rw [List.take_append, List.take_of_length_le h1, rv_enc _ _ h]
    simp only
    rw [if_pos]
    simp only [List.length_append, List.length_take] at hn ⊢
    omega

theorem fix_len (v k : Nat) : (fix v k).length = k := by
  induction k generalizing v with
  | zero => rfl
  | succ k ih => simp [fix, ih]

theorem fix_byte (v k : Nat) : ∀ b ∈ fix v k, b < 256 := by
  induction k generalizing v with
  | zero => simp [fix]
  | succ k ih =>
    intro b hb
    rcases List.mem_cons.1 hb with rfl | hb
    · exact Nat.mod_lt _ (by decide)
    · exact ih _ b hb

section
variable {H : Type}

theorem ok_parts {n : Nat} {d : DataW H} {l : List (DataW H)} (h : fieldsOk n (d :: l) = true) :
    fieldsOk n l = true ∧ 1 ≤ fNum d ∧ fNum d ≤ 536870911 ∧ (fKind d = 0 ∨ fKind d = 1 ∨ fKind d = 2 ∨ fKind d = 3 ∨ fKind d = 5) ∧ (fKind d = 3 → ∃ m, n = m + 1 ∧ fieldsOk m (fKids d) = true) := by
  cases n with
  | zero =>
    simp only [fieldsOk, List.all_cons, Bool.and_eq_true, numOk, decide_eq_true_eq] at h ⊢
    exact ⟨h.2, by omega, by omega, by omega, fun h3 => by omega⟩
  | succ n =>
    simp only [fieldsOk, List.all_cons, Bool.and_eq_true, numOk, decide_eq_true_eq, Bool.or_eq_true] at h ⊢
    refine ⟨h.2, by omega, by omega, by omega, fun h3 => ⟨n, rfl, ?_⟩⟩
    rcases h.1.2 with h4 | h4
    · omega
    · exact h4

theorem fieldsB_cons (n : Nat) (d : DataW H) (l : List (DataW H)) : fieldsB n (d :: l) = fldB (match n with | 0 => fun _ => [] | m + 1 => fieldsB m) d ++ fieldsB n l := by
  cases n <;> simp [fieldsB]

theorem fieldsB_nil (n : Nat) : fieldsB n ([] : List (DataW H)) = [] := by cases n <;> simp [fieldsB]

theorem fieldsB_len (n : Nat) (l : List (DataW H)) : l.length ≤ (fieldsB n l).length := by
  induction l with
  | nil => simp
  | cons d l ih =>
    rw [fieldsB_cons]
    have := enc_len_pos (tagN (fNum d) (fKind d))
    simp only [fldB, List.length_append, List.length_cons]
    omega

/-- A value that is written is read, whatever stands behind it: given that the kids' group is. -/
theorem fval_ok (f D : Nat) (kids : List (DataW H) → List Nat) (d : DataW H) (more : List Nat) (hv : fV d < 18446744073709551616) (hd : (fData d).length < 18446744073709551616)
    (hk : fKind d = 0 ∨ fKind d = 1 ∨ fKind d = 2 ∨ fKind d = 3 ∨ fKind d = 5)
    (hg : fKind d = 3 → ∀ r, grp f D (fNum d) (kids (fKids d) ++ (enc (tagN (fNum d) 4) ++ r)) = some ((kids (fKids d)).length, (kids (fKids d)).length + (enc (tagN (fNum d) 4)).length)) :
    fval (grp f D) (fNum d) (fKind d).toNat (valB kids d ++ more) = some (valB kids d).length := by
  rcases hk with h | h | h | h | h
  · unfold fval valB simple
    rw [h]
    simp [rv_enc _ _ hv]
  · unfold fval valB simple
    rw [h]
    simp [fix_len]
  · unfold fval valB simple
    rw [h]
    simp [rbytes_enc _ _ hd]
  · have := hg h more
    unfold fval valB simple
    rw [h]
    simp [this]
  · unfold fval valB simple
    rw [h]
    simp [fix_len]

theorem fval_cut (f D : Nat) (kids : List (DataW H) → List Nat) (d : DataW H) (n : Nat) (hn : n < (valB kids d).length) (hd : (fData d).length < 18446744073709551616)
    (hk : fKind d = 0 ∨ fKind d = 1 ∨ fKind d = 2 ∨ fKind d = 3 ∨ fKind d = 5)
    (hg : fKind d = 3 → ∀ m, m < (kids (fKids d) ++ enc (tagN (fNum d) 4)).length → grp f D (fNum d) ((kids (fKids d) ++ enc (tagN (fNum d) 4)).take m) = none) :
    fval (grp f D) (fNum d) (fKind d).toNat ((valB kids d).take n) = none := by
  rcases hk with h | h | h | h | h
  · unfold fval valB simple at *
    rw [h] at hn ⊢
    simp only [if_pos] at hn
    simp [rv_enc_cut _ _ hn]
  · unfold fval valB simple at *
    rw [h] at hn ⊢
    simp [fix_len] at hn ⊢
    omega
  · unfold fval valB simple at *
    rw [h] at hn ⊢
    simp only [Int.reduceEq, if_false, if_pos] at hn
    have := rbytes_cut (fData d) n hd hn
    simp [this]
  · unfold valB at *
    rw [h] at hn ⊢
    simp only [Int.reduceEq, if_false] at hn ⊢
    have := hg h n hn
    unfold fval
    simp [this]
  · unfold fval valB simple at *
    rw [h] at hn ⊢
    simp [fix_len] at hn ⊢
    omega

/-- Numbers and bytes that a machine holds, also in the kids. -/
def sane : Nat → List (DataW H) → Prop
  | 0, l => ∀ d ∈ l, fV d < 18446744073709551616 ∧ (fData d).length < 18446744073709551616
  | n + 1, l => ∀ d ∈ l, fV d < 18446744073709551616 ∧ (fData d).length < 18446744073709551616 ∧ sane n (fKids d)

theorem sane_parts {n : Nat} {d : DataW H} {l : List (DataW H)} (h : sane n (d :: l)) : sane n l ∧ fV d < 18446744073709551616 ∧ (fData d).length < 18446744073709551616 ∧ (∀ m, n = m + 1 → sane m (fKids d)) := by
  cases n with
  | zero =>
    have := h d (List.mem_cons_self ..)
    exact ⟨fun x hx => h x (List.mem_cons_of_mem _ hx), this.1, this.2, fun m e => by omega⟩
  | succ n =>
    have := h d (List.mem_cons_self ..)
    refine ⟨fun x hx => h x (List.mem_cons_of_mem _ hx), this.1, this.2.1, fun m e => ?_⟩
    obtain rfl : n = m := by omega
    exact this.2.2

theorem ok_one {n : Nat} {d : DataW H} {l : List (DataW H)} (h : fieldsOk n (d :: l) = true) : fieldsOk n [d] = true := by
  cases n with
  | zero =>
    rw [fieldsOk, List.all_cons, Bool.and_eq_true] at h
    rw [fieldsOk, List.all_cons, h.1, List.all_nil, Bool.and_self]
  | succ n =>
    rw [fieldsOk, List.all_cons, Bool.and_eq_true] at h
    rw [fieldsOk, List.all_cons, h.1, List.all_nil, Bool.and_self]

theorem sane_one {n : Nat} {d : DataW H} {l : List (DataW H)} (h : sane n (d :: l)) : sane n [d] := by
  cases n with
  | zero =>
    intro x hx
    obtain rfl : x = d := by simpa using hx
    exact h x (List.mem_cons_self ..)
  | succ n =>
    intro x hx
    obtain rfl : x = d := by simpa using hx
    exact h x (List.mem_cons_self ..)

theorem tag_of {d : DataW H} (h1 : 1 ≤ fNum d) (h2 : fNum d ≤ 536870911) (hk : fKind d = 0 ∨ fKind d = 1 ∨ fKind d = 2 ∨ fKind d = 3 ∨ fKind d = 5) (more : List Nat) :
    rtag (enc (tagN (fNum d) (fKind d)) ++ more) = some ((fNum d).toNat, (fKind d).toNat, (enc (tagN (fNum d) (fKind d))).length) :=
  rtag_enc _ _ _ (by omega) (by omega) (by omega)

theorem grp_stop (f D : Nat) (a num : Int) (more : List Nat) (h1 : 1 ≤ a) (h2 : a ≤ 536870911) :
    grp (f + 1) (D + 1) num (enc (tagN a 4) ++ more) = if a = num then some (0, (enc (tagN a 4)).length) else none := by
  have h := rtag_enc a.toNat 4 more (by omega) (by omega) (by decide)
  rw [grp]
  simp only [tagN] at h ⊢
  simp only [show (4 : Int).toNat = 4 from rfl, h, if_pos]
  rw [Int.toNat_of_nonneg (by omega)]

/-- The level below. -/
def below (H : Type) : Nat → List (DataW H) → List Nat
  | 0 => fun _ => []
  | m + 1 => fieldsB m

theorem fieldsB_cons' (n : Nat) (d : DataW H) (l : List (DataW H)) : fieldsB n (d :: l) = enc (tagN (fNum d) (fKind d)) ++ (valB (below H n) d ++ fieldsB n l) := by
  rw [fieldsB_cons, fldB, List.append_assoc]
  cases n <;> rfl

/-- Fields that are written are read one by one, whatever stands behind them. -/
theorem grp_fields (n : Nat) : ∀ (l : List (DataW H)) (f D : Nat) (num : Int) (rest : List Nat), fieldsOk n l = true → sane n l → (fieldsB n l).length < f → n ≤ D →
    grp f (D + 1) num (fieldsB n l ++ rest) = (grp (f - l.length) (D + 1) num rest).map fun y => ((fieldsB n l).length + y.1, (fieldsB n l).length + y.2) := by
  induction n using Nat.strongRecOn with
  | _ n ihn =>
  intro l
  induction l with
  | nil =>
    intro f D num rest _ _ _ _
    rw [fieldsB_nil]
    simp
  | cons d l ih =>
    intro f D num rest hok hs hf hD
    obtain ⟨hok', h1, h2, hk, h3⟩ := ok_parts hok
    obtain ⟨hs', hv, hd, hkid⟩ := sane_parts hs
    rw [fieldsB_cons'] at hf ⊢
    have hl := enc_len_pos (tagN (fNum d) (fKind d))
    have hlen := fieldsB_len n l
    simp only [List.length_append] at hf
    obtain ⟨f, rfl⟩ : ∃ g, f = g + 1 := ⟨f - 1, by omega⟩
    rw [List.append_assoc, grp]
    simp only [tag_of h1 h2 hk]
    rw [if_neg (by omega), List.drop_left, List.append_assoc]
    rw [show (((fNum d).toNat : Nat) : Int) = fNum d from Int.toNat_of_nonneg (by omega)]
    have hfv := fval_ok f D (below H n) d (fieldsB n l ++ rest) hv hd hk (fun h => by
      intro r
      obtain ⟨m, rfl, hokm⟩ := h3 h
      obtain ⟨D, rfl⟩ : ∃ g, D = g + 1 := ⟨D - 1, by omega⟩
      have hvl : (valB (below H (m + 1)) d).length = (fieldsB m (fKids d)).length + (enc (tagN (fNum d) 4)).length := by
        unfold valB
        rw [h]
        simp [below]
      have hg := ihn m (by omega) (fKids d) f D (fNum d) (enc (tagN (fNum d) 4) ++ r) hokm (hkid m rfl) (by omega) (by omega)
      have hfl := fieldsB_len m (fKids d)
      have hle := enc_len_pos (tagN (fNum d) 4)
      obtain ⟨g, hg'⟩ : ∃ g, f - (fKids d).length = g + 1 := ⟨f - (fKids d).length - 1, by omega⟩
      show grp f (D + 1) (fNum d) (fieldsB m (fKids d) ++ _) = some ((fieldsB m (fKids d)).length, _)
      rw [hg, hg', grp_stop g D (fNum d) (fNum d) r h1 h2, if_pos rfl]
      rfl)
    simp only [hfv]
    rw [← List.drop_drop, List.drop_left, List.drop_left, ih f D num rest hok' hs' (by omega) hD, show f + 1 - (d :: l).length = f - l.length by simp]
    cases grp (f - l.length) (D + 1) num rest with
    | none => rfl
    | some y => simp only [Option.map_some, Option.some.injEq, Prod.mk.injEq, List.length_append]; omega

/-- A group that is written is read, whatever stands behind it; one that ends with another number is not. -/
theorem grp_written (n : Nat) (l : List (DataW H)) (f D : Nat) (num a : Int) (more : List Nat) (hok : fieldsOk n l = true) (hs : sane n l) (hf : (fieldsB n l).length < f) (hD : n ≤ D) (h1 : 1 ≤ a) (h2 : a ≤ 536870911) :
    grp f (D + 1) num (fieldsB n l ++ (enc (tagN a 4) ++ more)) = if a = num then some ((fieldsB n l).length, (fieldsB n l).length + (enc (tagN a 4)).length) else none := by
  have hl := fieldsB_len n l
  obtain ⟨g, hg⟩ : ∃ g, f - l.length = g + 1 := ⟨f - l.length - 1, by omega⟩
  rw [grp_fields n l f D num _ hok hs hf hD, hg, grp_stop g D a num more h1 h2]
  split <;> simp

theorem fval_written (n : Nat) (d : DataW H) (f D : Nat) (more : List Nat) (hok : fieldsOk n [d] = true) (hs : sane n [d]) (hf : (valB (below H n) d).length < f) (hD : n ≤ D) :
    fval (grp f D) (fNum d) (fKind d).toNat (valB (below H n) d ++ more) = some (valB (below H n) d).length := by
  obtain ⟨_, h1, h2, hk, h3⟩ := ok_parts hok
  obtain ⟨_, hv, hd, hkid⟩ := sane_parts hs
  refine fval_ok f D (below H n) d more hv hd hk (fun h r => ?_)
  obtain ⟨m, rfl, hokm⟩ := h3 h
  obtain ⟨D, rfl⟩ : ∃ g, D = g + 1 := ⟨D - 1, by omega⟩
  have hvl : (valB (below H (m + 1)) d).length = (fieldsB m (fKids d)).length + (enc (tagN (fNum d) 4)).length := by
    unfold valB
    rw [h]
    simp [below]
  have := grp_written m (fKids d) f D (fNum d) (fNum d) r hokm (hkid m rfl) (by omega) (by omega) h1 h2
  rw [if_pos rfl] at this
  exact this

/-- A group that is cut is not read. -/
theorem grp_cut (n : Nat) : ∀ (l : List (DataW H)) (f D : Nat) (num : Int) (k : Nat), fieldsOk n l = true → sane n l → (fieldsB n l).length < f → n ≤ D → 1 ≤ num → num ≤ 536870911 →
    k < (fieldsB n l ++ enc (tagN num 4)).length → grp f (D + 1) num ((fieldsB n l ++ enc (tagN num 4)).take k) = none := by
  induction n using Nat.strongRecOn with
  | _ n ihn =>
  intro l
  induction l with
  | nil =>
    intro f D num k _ _ hf _ hn1 hn2 hk
    rw [fieldsB_nil, List.nil_append] at hk ⊢
    rw [fieldsB_nil] at hf
    obtain ⟨f, rfl⟩ : ∃ g, f = g + 1 := ⟨f - 1, by simp at hf; omega⟩
    have := rtag_cut num.toNat 4 k hk
    rw [grp]
    simp only [tagN] at this ⊢
    simp only [show (4 : Int).toNat = 4 from rfl, this]
  | cons d l ih =>
    intro f D num k hok hs hf hD hn1 hn2 hkk
    obtain ⟨hok', h1, h2, hk, h3⟩ := ok_parts hok
    obtain ⟨hs', hv, hd, hkid⟩ := sane_parts hs
    rw [fieldsB_cons'] at hf hkk ⊢
    have hl := enc_len_pos (tagN (fNum d) (fKind d))
    have hlen := fieldsB_len n l
    simp only [List.length_append] at hf hkk
    obtain ⟨f, rfl⟩ : ∃ g, f = g + 1 := ⟨f - 1, by omega⟩
    rw [List.append_assoc, List.append_assoc, grp]
    rcases Nat.lt_or_ge k (enc (tagN (fNum d) (fKind d))).length with hk1 | hk1
    · rw [List.take_append_of_le_length (by omega)]
      have := rtag_cut (fNum d).toNat (fKind d).toNat k hk1
      simp only [tagN] at this ⊢
      simp only [this]
    · rw [List.take_append, List.take_of_length_le hk1]
      simp only [tag_of h1 h2 hk]
      rw [if_neg (by omega), List.drop_left]
      rw [show (((fNum d).toNat : Nat) : Int) = fNum d from Int.toNat_of_nonneg (by omega)]
      generalize hkm : k - (enc (tagN (fNum d) (fKind d))).length = k1
      rcases Nat.lt_or_ge k1 (valB (below H n) d).length with hk2 | hk2
      · rw [List.take_append_of_le_length (by omega)]
        have := fval_cut f D (below H n) d k1 hk2 hd hk (fun h m hm => by
          obtain ⟨n', rfl, hokm⟩ := h3 h
          obtain ⟨D, rfl⟩ : ∃ g, D = g + 1 := ⟨D - 1, by omega⟩
          have hvl : (valB (below H (n' + 1)) d).length = (fieldsB n' (fKids d)).length + (enc (tagN (fNum d) 4)).length := by
            unfold valB
            rw [h]
            simp [below]
          exact ihn n' (by omega) (fKids d) f D (fNum d) m hokm (hkid n' rfl) (by omega) (by omega) h1 h2 hm)
        simp only [this]
      · rw [List.take_append, List.take_of_length_le hk2]
        have hfv := fval_written n d f D ((fieldsB n l ++ enc (tagN num 4)).take (k1 - (valB (below H n) d).length)) (ok_one hok) (sane_one hs) (by omega) hD
        simp only [hfv]
        rw [← List.drop_drop, List.drop_left, List.drop_left, ih f D num _ hok' hs' (by omega) hD hn1 hn2 (by simp only [List.length_append]; omega)]
        rfl

end

end Go.Proofs.Ytacdclkhhgjkbaa.pl
