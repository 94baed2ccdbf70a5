/-
  More words for memory over any program: an append of a whole slice, and blocks of three or four cells.
  Conditions: none.
-/
import Derived.Test.YtgkhnccedejjnaaMem
namespace Go.Proofs.Ytgkhnccedejjnaa
open Go.RowKit

/-- 'out = append(out, xs...)': the elements xs lie in memory and are not none. -/
theorem wpList_spread {P : Program} {w : World} {ops : Array Oper} {rest : List Oper} {o : Oper} {a : Act} {Q : Exit → Act → World → Prop} (hgd : o.guard = none) (s x : Operand) (t : TypeId)
    (ho : o.op = .call { callee := .builtin .append, args := #[s, x], argTypes := #[t, t] })
    {base : Nat} {e : TypeId} {size bytes : Nat} (E : Elem P t e size bytes) {v : Value} {n : Nat} {xs : List Value} (hs : a.eval s = v) (hown : w.ownsRow base e size v n xs)
    {b off m c : Nat} {news : List Value} (hx : a.eval x = .slice (some ⟨b, off, none⟩) m c) (hl : news.length = m * size) (hnews : ∀ j u, news[j]? = some u → w.cell? ⟨b, off + j, none⟩ = some u) (h1 : ∀ u ∈ news, u.oneCell' = true)
    (hm : 0 < m) (hbytes : (n + m) * bytes ≤ 140737488355328) (hbase : base ≤ w.heap.size)
    (h : ∀ g cap w', w'.ownsRow base e size (.slice (some ⟨g, 0, none⟩) (n + m) cap) (n + m) (xs ++ news) → Below base w w' → w.grownBy w' v.ownBlock → g < w'.heap.size → (v.ownBlock = some g ∨ w.heap.size ≤ g) →
      wpList P ops Q rest (a.put o.dst (.slice (some ⟨g, 0, none⟩) (n + m) cap)) w') : wpList P ops Q (o :: rest) a w := by
  obtain ⟨ht, hsz, hb0, i, z, hi, hz, hsize, hby, hzs⟩ := E
  have hn1 : n + m ≤ 140737488355328 := Nat.le_trans (Nat.le_mul_of_pos_right _ hb0) hbytes
  refine wpList_append_lies w hgd s x t ho base e i z size bytes ht hi hz hsize hby hzs hsz v n xs hs hown ⟨b, off, none⟩ m c news hx hl (fun j u hu => by rw [add_none]; exact hnews j u hu) h1 hm (by simp only [maxLen]; omega) hbytes hbase w.heap.size rfl ?_
  intro g cap w' h2 h3 h4 h5
  refine h g cap w' h2 ?_ h3 h5 ?_
  · exact (Below.refl base w).grown h3 hbase (fun k hk => (hown.lt k hk).1)
  · rcases h4 with h4 | h4
    · exact .inl h4
    · exact .inr (by omega)

theorem box3 {w : World} {g : Nat} {a b c : Value} {t : TypeId} {fr : Nat × Nat} (h : w.heap[g]? = some (.cells #[a, b, c] t fr)) : w.cell? ⟨g, 0, none⟩ = some a ∧ w.cell? ⟨g, 1, none⟩ = some b ∧ w.cell? ⟨g, 2, none⟩ = some c :=
  ⟨cell_of_heap h 0 rfl, cell_of_heap h 1 rfl, cell_of_heap h 2 rfl⟩
theorem box4 {w : World} {g : Nat} {a b c d : Value} {t : TypeId} {fr : Nat × Nat} (h : w.heap[g]? = some (.cells #[a, b, c, d] t fr)) : w.cell? ⟨g, 0, none⟩ = some a ∧ w.cell? ⟨g, 1, none⟩ = some b ∧ w.cell? ⟨g, 2, none⟩ = some c ∧ w.cell? ⟨g, 3, none⟩ = some d :=
  ⟨cell_of_heap h 0 rfl, cell_of_heap h 1 rfl, cell_of_heap h 2 rfl, cell_of_heap h 3 rfl⟩
theorem heap_keep {w w' : World} {g : Nat} {o : Obj} (hb : Below w.heap.size w w') (h : w.heap[g]? = some o) : w'.heap[g]? = some o := (hb.block g (lt_of_heap h)).trans h
theorem heap_below {w w' : World} {B g : Nat} {o : Obj} (hb : Below B w w') (hg : g < B) (h : w.heap[g]? = some o) : w'.heap[g]? = some o := (hb.block g hg).trans h
theorem below_alloc (w : World) (o : Obj) : Below w.heap.size w (w.alloc o) := (Below.refl _ _).alloc (Nat.le_refl _) _
theorem below_after {w w1 w2 : World} (h : Below w.heap.size w w1) (h2 : Below w1.heap.size w1 w2) : Below w.heap.size w w2 := h.trans (h2.mono h.size)
theorem below_box {w w2 : World} {o : Obj} (h2 : Below (w.alloc o).heap.size (w.alloc o) w2) : Below w.heap.size w w2 := below_after (below_alloc w o) h2
end Go.Proofs.Ytgkhnccedejjnaa
