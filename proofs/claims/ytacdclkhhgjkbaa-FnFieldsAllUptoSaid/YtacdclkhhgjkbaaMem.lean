/-
  Bytes in memory, over whatever program: a slice value that reads as a list of bytes; a row of the call's own that holds bytes; such a slice as a string.
-/
import Derived.WalkKit
import Derived.Below
import Derived.Laws.OwnMore
import Derived.Laws.BytesArg
import Derived.Maps.AppendAt
import Derived.Deep.AppendLies
import Derived.Deep.Draws
import Derived.RegionTactic
import Derived.OwnWalk
import Derived.Deep.RegionHeld3
namespace Go.Proofs.Ytacdclkhhgjkbaa.mem
open Go.RowKit

/-- A byte's cell. -/
def bv (b : Nat) : Value := .int .u8 (b : Int)
/-- Bytes as a string. -/
def str (bs : List Nat) : ByteArray := ⟨(bs.map fun b => UInt8.ofNat b).toArray⟩

theorem str_nums (bs : List Nat) : strOfNums (bs.map fun b : Nat => (b : Int)) = str bs := by
  unfold strOfNums str
  congr 2
  simp

theorem str_size (bs : List Nat) : (str bs).size = bs.length := by simp [str, ByteArray.size]
theorem str_append (a b : List Nat) : str a ++ str b = str (a ++ b) := by
  unfold str
  rw [ByteArray.mk_append_mk, List.map_append]
theorem str_toList (bs : List Nat) : (str bs).toList = bs.map fun b => UInt8.ofNat b := by
  unfold str
  rw [ByteArray.toList_mk]

theorem block_of_add (a : Addr) (n : Nat) : (a.add n).block = a.block := by unfold Addr.add; split <;> rfl
theorem add_of_add (a : Addr) (i j : Nat) : (a.add i).add j = a.add (i + j) := by
  unfold Addr.add
  by_cases hi : i = 0 <;> by_cases hj : j = 0 <;> simp [hi, hj, Nat.add_assoc]
theorem add_none (b off i : Nat) : (⟨b, off, none⟩ : Addr).add i = ⟨b, off + i, none⟩ := by unfold Addr.add; split <;> simp_all

/-- The slice at A reads as these bytes, below block B. -/
def Rd (w : World) (B : Nat) (A : Option Addr) (bs : List Nat) : Prop :=
  (∀ b ∈ bs, b < 256) ∧ (0 < bs.length → ∃ ad, A = some ad ∧ ad.block < B ∧ ∀ j, j < bs.length → w.cell? (ad.add j) = some (bv (bs.getD j 0)))

section
variable {w w' : World} {B B' : Nat} {A : Option Addr} {bs : List Nat}

theorem Rd.nil_ (w : World) (B : Nat) (A : Option Addr) : Rd w B A [] := ⟨by simp, fun h => absurd h (by simp)⟩
theorem Rd.byte (h : Rd w B A bs) (j : Nat) : bs.getD j 0 < 256 := by
  rcases Nat.lt_or_ge j bs.length with hj | hj
  · rw [List.getD_eq_getElem?_getD, List.getElem?_eq_getElem hj]
    exact h.1 _ (List.getElem_mem hj)
  · rw [List.getD_eq_getElem?_getD, List.getElem?_eq_none hj]
    decide
/-- Where there is a byte: the address written out. -/
theorem Rd.at_ (h : Rd w B A bs) (hn : 0 < bs.length) : ∃ b off, A = some ⟨b, off, none⟩ ∧ b < B ∧ ∀ j, j < bs.length → w.cell? ⟨b, off + j, none⟩ = some (bv (bs.getD j 0)) := by
  obtain ⟨ad, rfl, hb, hc⟩ := h.2 hn
  obtain ⟨b, off, spot⟩ := ad
  have h0 := hc 0 hn
  have hs : spot = none := by simpa [Addr.add] using World.cell?_spot h0
  subst hs
  refine ⟨b, off, rfl, hb, fun j hj => ?_⟩
  rw [← add_none]
  exact hc j hj
theorem Rd.keep (h : Rd w B A bs) (hk : ∀ p : Addr, p.block < B → w'.cell? p = w.cell? p) : Rd w' B A bs :=
  ⟨h.1, fun hn => by
    obtain ⟨ad, e, hb, hc⟩ := h.2 hn
    exact ⟨ad, e, hb, fun j hj => (hk _ (by rw [block_of_add]; exact hb)).trans (hc j hj)⟩⟩
theorem Rd.more (h : Rd w B A bs) (hB : B ≤ B') : Rd w B' A bs :=
  ⟨h.1, fun hn => by
    obtain ⟨ad, e, hb, hc⟩ := h.2 hn
    exact ⟨ad, e, by omega, hc⟩⟩
theorem Rd.below (h : Rd w B A bs) (hb : Below B w w') : Rd w' B A bs := h.keep fun _ hp => hb.cell hp
theorem Rd.grown (h : Rd w B A bs) {row : Option Nat} (hg : w.grownBy w' row) (hB : B ≤ w.heap.size) (hr : ∀ g, row = some g → B ≤ g) : Rd w' B A bs :=
  h.keep fun p hp => World.cell?_of_block (hg.block p.block (by omega) (fun e => by have := hr _ e.symm; omega))
theorem Rd.take (h : Rd w B A bs) (k : Nat) : Rd w B A (bs.take k) := by
  refine ⟨fun b hb => h.1 b (List.mem_of_mem_take hb), fun hn => ?_⟩
  rw [List.length_take] at hn
  obtain ⟨ad, e, hb, hc⟩ := h.2 (by omega)
  refine ⟨ad, e, hb, fun j hj => ?_⟩
  rw [List.length_take] at hj
  rw [hc j (by omega), List.getD_eq_getElem?_getD, List.getD_eq_getElem?_getD, List.getElem?_take, if_pos (by omega)]
theorem Rd.drop (h : Rd w B A bs) {k cap : Nat} (hc : bs.length ≤ cap) : Rd w B (if cap = k then A else A.map (·.add k)) (bs.drop k) := by
  refine ⟨fun b hb => h.1 b (List.mem_of_mem_drop hb), fun hn => ?_⟩
  rw [List.length_drop] at hn
  obtain ⟨ad, rfl, hb, hcell⟩ := h.2 (by omega)
  rw [if_neg (by omega)]
  refine ⟨ad.add k, rfl, by rw [block_of_add]; exact hb, fun j hj => ?_⟩
  rw [List.length_drop] at hj
  rw [add_of_add, hcell _ (by omega), List.getD_eq_getElem?_getD, List.getD_eq_getElem?_getD, List.getElem?_drop]
theorem Rd.drop' {b off : Nat} (h : Rd w B (some ⟨b, off, none⟩) bs) (k : Nat) : Rd w B (some ⟨b, off + k, none⟩) (bs.drop k) := by
  refine ⟨fun b hb => h.1 b (List.mem_of_mem_drop hb), fun hn => ?_⟩
  rw [List.length_drop] at hn
  obtain ⟨ad, e, hb, hcell⟩ := h.2 (by omega)
  obtain rfl : ad = ⟨b, off, none⟩ := by injection e with e; exact e.symm
  refine ⟨_, rfl, hb, fun j hj => ?_⟩
  rw [List.length_drop] at hj
  rw [← add_none, add_of_add, hcell _ (by omega), List.getD_eq_getElem?_getD, List.getD_eq_getElem?_getD, List.getElem?_drop]

/-- The slice as a string. -/
theorem Rd.conv {P : Program} {src dst e : TypeId} (hs : P.underlying src = some (.slice e)) (he : P.underlying e = some (.int .u8)) (hd : P.underlying dst = some .string) (h : Rd w B A bs) (n c : Nat) (hn : n = bs.length) :
    (convert src dst (.slice A n c)).run P w = .ok (.string (str bs)) w := by
  subst hn
  rcases Nat.eq_zero_or_pos bs.length with h0 | h0
  · obtain rfl := List.eq_nil_of_length_eq_zero h0
    rcases A with _ | a
    · rw [List.length_nil, run_convert_bytes_nil w src e hs he 0 c dst hd]
      rfl
    · rw [List.length_nil, run_convert_bytes_string w src dst e _ 0 c hs he hd]
      have := run_bytesToString (P := P) w a 0 c []
      rw [this]
      · rfl
      · have hl := run_loadCells_list (P := P) w a [] (fun j v hj => by simp at hj)
        simpa using hl
  · obtain ⟨b, off, rfl, _, hc⟩ := h.at_ h0
    have := run_convert_bytes_arg (P := P) w src e hs he b off bs.length c (bs.map fun b : Nat => (b : Int)) (by simp) (fun i hi => by
      rw [hc i hi, List.getD_eq_getElem?_getD, List.getD_eq_getElem?_getD, List.getElem?_map, List.getElem?_eq_getElem hi]
      rfl) dst hd
    rw [this, str_nums]
end

/-- The address of 's[k:]'. -/
def cutA (A : Option Addr) (c k : Nat) : Option Addr := if c = k then A else A.map (·.add k)
theorem Rd.cut {w : World} {B : Nat} {A : Option Addr} {bs : List Nat} (h : Rd w B A bs) (k c : Nat) (hc : bs.length ≤ c) : Rd w B (cutA A c k) (bs.drop k) := h.drop hc
theorem run_cut {P : Program} {t e : TypeId} {i : TypeInfo} (ht : P.underlying t = some (.slice e)) (hi : P.info? e = some i) (h1 : i.size = 1) (A : Option Addr) (n c k : Nat) (hk : k ≤ n) (kl : IntKind) (w : World) :
    (Instr.slice t (.slice A n c) (some (.int kl (k : Int))) none none).run P w = .ok (.slice (cutA A c k) (n - k) (c - k)) w := by
  have he : P.elem t = e := by simp [Program.elem, ht]
  rw [run_slice_l w t A n c (by rw [he]; exact ht) kl k (by omega) (by omega), he]
  simp [sizeOf, typeInfo, hi, h1, sliced, cutA]
theorem run_upto {P : Program} {t e : TypeId} {i : TypeInfo} (ht : P.underlying t = some (.slice e)) (hi : P.info? e = some i) (h1 : i.size = 1) (A : Option Addr) (n c k : Nat) (hk : k ≤ c) (kl : IntKind) (w : World) :
    (Instr.slice t (.slice A n c) none (some (.int kl (k : Int))) none).run P w = .ok (.slice A k c) w := by
  have he : P.elem t = e := by simp [Program.elem, ht]
  rw [run_slice_h w t A n c (by rw [he]; exact ht) kl k (by omega) (by omega), he]
  simp [sizeOf, typeInfo, hi, h1, sliced]
  intro _
  cases A <;> simp [Addr.add]

/-- The slice value v is a row of the call's own, from block base on, that holds these bytes (e: the byte's type). -/
def Own (w : World) (base : Nat) (e : TypeId) (v : Value) (bs : List Nat) : Prop :=
  (∀ b ∈ bs, b < 256) ∧ bs.length ≤ maxLen ∧ w.ownsRow base e 1 v bs.length (bs.map bv)

section
variable {w w' : World} {base : Nat} {e : TypeId} {v : Value} {bs : List Nat}

/-- As a slice that can be read. -/
theorem Own.form (h : Own w base e v bs) : ∃ A c, v = .slice A bs.length c ∧ bs.length ≤ c ∧ c ≤ maxLen ∧ Rd w w.heap.size A bs ∧ ∀ ad, A = some ad → base ≤ ad.block := by
  obtain ⟨hb, hm, hown⟩ := h
  rcases hown.2 with ⟨rfl, h0⟩ | ⟨g, cap, cur, rfl, hbase, hg, hnc, hcm, hcs, htake⟩
  · obtain rfl := List.eq_nil_of_length_eq_zero h0
    exact ⟨none, 0, rfl, by simp, by simp [maxLen], Rd.nil_ _ _ _, fun ad h => by cases h⟩
  · refine ⟨some ⟨g, 0, none⟩, cap, rfl, hnc, hcm, ⟨hb, fun _ => ⟨_, rfl, (Array.getElem?_eq_some_iff.1 hg).1, fun j hj => ?_⟩⟩, fun ad h => by injection h with h; subst h; exact hbase⟩
    refine hown.cells (g := g) rfl j _ ?_
    rw [List.getElem?_map, List.getElem?_eq_getElem hj, List.getD_eq_getElem?_getD, List.getElem?_eq_getElem hj]
    rfl
theorem Own.keepB (h : Own w base e v bs) {B : Nat} (hb : Below B w w') (hB : w.heap.size ≤ B) : Own w' base e v bs := by
  refine ⟨h.1, h.2.1, h.2.2.1, ?_⟩
  rcases h.2.2.2 with hn | ⟨g, cap, cur, rfl, hbase, hg, rest⟩
  · exact .inl hn
  · exact .inr ⟨g, cap, cur, rfl, hbase, (hb.block g (by have := (Array.getElem?_eq_some_iff.1 hg).1; omega)).trans hg, rest⟩
end

/-- What a call that builds bytes leaves: a row of the call's own that holds them; below 'base' all is as it was. -/
def Gives (w : World) (base : Nat) (t : TypeId) (bs : List Nat) (e : Ending) (w' : World) : Prop := ∃ v', e = .returned v' ∧ Own w' base t v' bs ∧ Below base w w'

theorem Own.empty (w : World) (base : Nat) (t : TypeId) (hb : base ≤ w.heap.size) : Own (w.alloc (.cells #[] t)) base t (.slice (some ⟨w.heap.size, 0, none⟩) 0 0) [] :=
  ⟨by simp, by simp, World.ownsRow_made w #[] 0 hb (by simp [maxLen]) rfl⟩

/-- A row of bytes that has just been laid. -/
theorem Rd.new (w : World) (cs : Array Value) (t : TypeId) (news : List Nat) (hb : ∀ b ∈ news, b < 256) (h : cs = (news.map bv).toArray) :
    Rd (w.alloc (.cells cs t)) (w.heap.size + 1) (some ⟨w.heap.size, 0, none⟩) news := by
  subst h
  refine ⟨hb, fun _ => ⟨_, rfl, Nat.lt_succ_self _, fun j hj => ?_⟩⟩
  rw [add_none, Nat.zero_add, cell_of_row _ w.heap.size j _ t (0, 0) (heap_alloc_new w _)]
  simp [List.getElem?_eq_getElem hj, List.getD_eq_getElem?_getD]

/-- append of bytes that can be read onto a row of the call's own. -/
theorem wpList_append_bytes {P : Program} (w : World) {ops : Array Oper} {rest : List Oper} {o : Oper} {a : Act} {Q : Exit → Act → World → Prop} (hgd : o.guard = none) (s x : Operand) (t : TypeId)
    (ho : o.op = .call { callee := .builtin .append, args := #[s, x], argTypes := #[t, t] })
    (base : Nat) (e : TypeId) (i : TypeInfo) (ht : P.underlying t = some (.slice e)) (hi : P.info? e = some i) (hz : i.zero = some (.int .u8 0))
    (hsize : i.size = 1) (hby : i.bytes = 1)
    (v : Value) (bs : List Nat) (hs : a.eval s = v) (hown : Own w base e v bs)
    (B : Nat) (A : Option Addr) (m c : Nat) (news : List Nat) (hx : a.eval x = .slice A m c) (hm : m = news.length) (hr : Rd w B A news)
    (h63 : bs.length + m ≤ 140737488355328) (hbase : base ≤ w.heap.size)
    (h : ∀ v' w', Own w' base e v' (bs ++ news) → Below base w w' → wpList P ops Q rest (a.put o.dst v') w') : wpList P ops Q (o :: rest) a w := by
  subst hm
  obtain ⟨hb, hml, hrow⟩ := hown
  have hzs : (Value.int .u8 0).cells.size = 1 := rfl
  have fin : ∀ v' w', w'.ownsRow base e 1 v' (bs.length + news.length) (bs.map bv ++ news.map bv) → w.grownBy w' v.ownBlock → wpList P ops Q rest (a.put o.dst v') w' := by
    intro v' w' h1 h2
    refine h v' w' ⟨fun b hb' => ?_, ?_, ?_⟩ ((Below.refl _ _).grown h2 hbase (fun k hk => (hrow.lt k hk).1))
    · rcases List.mem_append.1 hb' with h3 | h3
      · exact hb b h3
      · exact hr.1 b h3
    · rw [List.length_append]; simp only [maxLen]; omega
    · rw [List.length_append, List.map_append]; exact h1
  have ones : ∀ u ∈ news.map bv, u.oneCell' = true := by
    intro u hu
    obtain ⟨b, _, rfl⟩ := List.mem_map.1 hu
    rfl
  rcases Nat.eq_zero_or_pos news.length with h0 | h0
  · obtain rfl := List.eq_nil_of_length_eq_zero h0
    rcases A with _ | ad
    · have hrun : (Builtin.append_ #[t, t] o.type #[v, .slice none 0 c]).run P w = .ok v w := by
        rcases hrow.2 with ⟨rfl, hn⟩ | ⟨g, cap, cur, rfl, _, _, hnc, _⟩
        · simp [Builtin.append_, run_underlying ht, sizeOf, typeInfo, hi, Builtin.lenOf, Builtin.firstCells]
        · simp [Builtin.append_, run_underlying ht, sizeOf, typeInfo, hi, Builtin.lenOf, Builtin.firstCells, hnc, storeCells]
      refine wpList_plain hgd fun K hK => ?_
      unfold Oper.wp execOp
      simp only [List.length_nil] at hx
      simp only [ho, resolve, invoke, builtin, Sem.run_bind, Sem.run_pure, Result.andThen_ok, List.map_toArray, List.map_cons, List.map_nil, hs, hx, hrun]
      exact hK _ _ (fin v w (by simpa using hrow) (World.grownBy.refl w _))
    · exact wpList_append_own w hgd s x t ho base e i (.int .u8 0) 1 1 ht hi hz hsize hby hzs (by decide) v bs.length _ hs hrow ad 0 c [] hx rfl (by simp) (by simp) (by simp only [maxLen, List.length_nil] at *; omega) (by simp at h63 ⊢; omega) hbase
        (fun v' w' h1 h2 _ => fin v' w' (by simpa using h1) h2)
  · obtain ⟨ad, rfl, _, hc⟩ := hr.2 h0
    refine wpList_append_own w hgd s x t ho base e i (.int .u8 0) 1 1 ht hi hz hsize hby hzs (by decide) v bs.length _ hs hrow ad news.length c (news.map bv) hx (by simp) (fun j u hu => ?_) ones (by simp only [maxLen]; omega) (by omega) hbase
      (fun v' w' h1 h2 _ => fin v' w' h1 h2)
    rw [List.getElem?_map] at hu
    have hj : j < news.length := by
      rcases Nat.lt_or_ge j news.length with h1 | h1
      · exact h1
      · rw [List.getElem?_eq_none h1] at hu; cases hu
    rw [hc j hj, List.getD_eq_getElem?_getD, List.getElem?_eq_getElem hj] at *
    simpa using hu

/-- In the midst of a region more may be held of the world than at its beginning. -/
theorem held_more {P : Program} {md : Region.Mode} {ops : Array Oper} {Q : Exit → Act → World → Prop} {S S' : World → Prop} (hSS : ∀ w, S' w → S w) :
    ∀ (fuel : Nat) (listed : Array Bool) (a : Act) (w : World), wpAnyH P md ops Q S' fuel listed a w → wpAnyH P md ops Q S fuel listed a w
  | 0, _, _, _, h => h
  | _ + 1, _, _, _, h => ⟨h.1, fun i hi => wpOp_mono (fun _ _ h' => ⟨hSS _ h'.1, held_more hSS _ _ _ _ h'.2⟩) (h.2 i hi)⟩

end Go.Proofs.Ytacdclkhhgjkbaa.mem
