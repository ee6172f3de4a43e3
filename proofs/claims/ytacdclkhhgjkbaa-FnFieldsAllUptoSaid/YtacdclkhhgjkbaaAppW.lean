/-
  append of bytes that can be read, as one operation of a region that draws its order.
-/
import Derived.Test.YtacdclkhhgjkbaaMem
namespace Go.Proofs.Ytacdclkhhgjkbaa.mem
open Go.RowKit

theorem wp_append_bytes {P : Program} (w : World) {o : Oper} {a : Act} {K : Act → World → Prop} {Q : Exit → Act → World → Prop} (s x : Operand) (t : TypeId)
    (ho : o.op = .call { callee := .builtin .append, args := #[s, x], argTypes := #[t, t] })
    (base : Nat) (e : TypeId) (i : TypeInfo) (ht : P.underlying t = some (.slice e)) (hi : P.info? e = some i) (hz : i.zero = some (.int .u8 0))
    (hsize : i.size = 1) (hby : i.bytes = 1)
    (v : Value) (bs : List Nat) (hs : a.eval s = v) (hown : Own w base e v bs)
    (B : Nat) (A : Option Addr) (m c : Nat) (news : List Nat) (hx : a.eval x = .slice A m c) (hm : m = news.length) (hr : Rd w B A news)
    (h63 : bs.length + m ≤ 140737488355328) (hbase : base ≤ w.heap.size)
    (h : ∀ v' w', Own w' base e v' (bs ++ news) → Below base w w' → w.grownBy w' v.ownBlock → K (a.put o.dst v') w') : o.wp P a w K Q := by
  subst hm
  obtain ⟨hb, hml, hrow⟩ := hown
  have hzs : (Value.int .u8 0).cells.size = 1 := rfl
  have fin : ∀ v' w', w'.ownsRow base e 1 v' (bs.length + news.length) (bs.map bv ++ news.map bv) → w.grownBy w' v.ownBlock → K (a.put o.dst v') w' := by
    intro v' w' h1 h2
    refine h v' w' ⟨fun b hb' => ?_, ?_, ?_⟩ ((Below.refl _ _).grown h2 hbase (fun k hk => (hrow.lt k hk).1)) h2
    · rcases List.mem_append.1 hb' with h3 | h3
      · exact hb b h3
      · exact hr.1 b h3
    · rw [List.length_append]; simp only [maxLen]; omega
    · rw [List.length_append, List.map_append]; exact h1
  have ones : ∀ u ∈ news.map bv, u.oneCell' = true := by
    intro u hu
    obtain ⟨b, _, rfl⟩ := List.mem_map.1 hu
    rfl
  rcases Nat.eq_zero_or_pos news.length with h0 | h0
  · obtain rfl := List.eq_nil_of_length_eq_zero h0
    rcases A with _ | ad
    · have hrun : (Builtin.append_ #[t, t] o.type #[v, .slice none 0 c]).run P w = .ok v w := by
        rcases hrow.2 with ⟨rfl, hn⟩ | ⟨g, cap, cur, rfl, _, _, hnc, _⟩
        · simp [Builtin.append_, run_underlying ht, sizeOf, typeInfo, hi, Builtin.lenOf, Builtin.firstCells]
        · simp [Builtin.append_, run_underlying ht, sizeOf, typeInfo, hi, Builtin.lenOf, Builtin.firstCells, hnc, storeCells]
      unfold Oper.wp execOp
      simp only [List.length_nil] at hx
      simp only [ho, resolve, invoke, builtin, Sem.run_bind, Sem.run_pure, Result.andThen_ok, List.map_toArray, List.map_cons, List.map_nil, hs, hx, hrun]
      exact (fin v w (by simpa using hrow) (World.grownBy.refl w _))
    · exact wp_append_own w s x t ho base e i (.int .u8 0) 1 1 ht hi hz hsize hby hzs (by decide) v bs.length _ hs hrow ad 0 c [] hx rfl (by simp) (by simp) (by simp only [maxLen, List.length_nil] at *; omega) (by simp at h63 ⊢; omega) hbase
        (fun v' w' h1 h2 _ => fin v' w' (by simpa using h1) h2)
  · obtain ⟨ad, rfl, _, hc⟩ := hr.2 h0
    refine wp_append_own w s x t ho base e i (.int .u8 0) 1 1 ht hi hz hsize hby hzs (by decide) v bs.length _ hs hrow ad news.length c (news.map bv) hx (by simp) (fun j u hu => ?_) ones (by simp only [maxLen]; omega) (by omega) hbase
      (fun v' w' h1 h2 _ => fin v' w' h1 h2)
    rw [List.getElem?_map] at hu
    have hj : j < news.length := by
      rcases Nat.lt_or_ge j news.length with h1 | h1
      · exact h1
      · rw [List.getElem?_eq_none h1] at hu; cases hu
    rw [hc j hj, List.getD_eq_getElem?_getD, List.getElem?_eq_getElem hj] at *
    simpa using hu

section
variable {w w' : World} {b : Nat} {e : TypeId} {v : Value} {bs : List Nat}
/-- A row stays, where another one is written. -/
theorem Own.apart (h : Own w b e v bs) {row : Option Nat} (hg : w.grownBy w' row) (hr : ∀ g, row = some g → g < b) : Own w' b e v bs := by
  refine ⟨h.1, h.2.1, h.2.2.1, ?_⟩
  rcases h.2.2.2 with hn | ⟨g, cap, cur, rfl, hbase, hgg, rest⟩
  · exact .inl hn
  · have hlt := (Array.getElem?_eq_some_iff.1 hgg).1
    exact .inr ⟨g, cap, cur, rfl, hbase, (hg.block g hlt (fun hh => by have := hr g hh.symm; omega)).trans hgg, rest⟩
end
/-- What holds all through a round: below, all is as it was; the row p holds what was laid there. -/
def St (w : World) (p : Nat) (o : Obj) (cur : World) : Prop := Below w.heap.size w cur ∧ cur.heap[p]? = some o ∧ w.heap.size ≤ p
theorem St.lt {w cur : World} {p : Nat} {o : Obj} (h : St w p o cur) : p < cur.heap.size := (Array.getElem?_eq_some_iff.1 h.2.1).1
theorem St.call {w cur nxt : World} {p : Nat} {o : Obj} (h : St w p o cur) (hb : Below cur.heap.size cur nxt) : St w p o nxt :=
  ⟨h.1.trans (hb.mono (by have := h.lt; have := h.2.2; omega)), (hb.block p h.lt).trans h.2.1, h.2.2⟩
theorem St.app {w cur nxt : World} {p : Nat} {o : Obj} (h : St w p o cur) (hb : Below w.heap.size cur nxt) {row : Option Nat} (hg : cur.grownBy nxt row) (hr : row ≠ some p) : St w p o nxt :=
  ⟨h.1.trans hb, (hg.block p h.lt (fun hh => hr hh.symm)).trans h.2.1, h.2.2⟩
/-- A row of bytes is none of another type. -/
theorem Own.ne {w : World} {b : Nat} {e : TypeId} {v : Value} {bs : List Nat} (h : Own w b e v bs) {p : Nat} {cs : Array Value} {t : TypeId} {fr : Nat × Nat} (hp : w.heap[p]? = some (.cells cs t fr)) (hne : e ≠ t) : v.ownBlock ≠ some p := by
  rcases h.2.2.2 with ⟨rfl, _⟩ | ⟨g, cap, cur, rfl, hbase, hgg, rest⟩
  · simp [Value.ownBlock]
  · intro hh
    simp only [Value.ownBlock, Option.some.injEq] at hh
    subst hh
    rw [hgg] at hp
    simp only [Option.some.injEq, Obj.cells.injEq] at hp
    exact hne hp.2.1
end Go.Proofs.Ytacdclkhhgjkbaa.mem
