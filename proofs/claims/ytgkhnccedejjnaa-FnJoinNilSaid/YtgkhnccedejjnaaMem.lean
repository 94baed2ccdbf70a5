/-
  Words for memory over any program: a slice that reads as a list of one-cell values, a slice of four-cell nodes, and how they are kept.
  Conditions: none.
-/
import Derived.WalkKit
import Derived.WalkLawsBesides
import Derived.Handy
import Derived.Deep.AppendLies
import Derived.Maps.AppendAt
import Derived.Lib.Hide
namespace Go.Proofs.Ytgkhnccedejjnaa
open Go.RowKit

/-- The largest number of bytes that any slice of ours is let to take. -/
abbrev reach : Nat := 140737488351232

/-- A node of a tree, as data. -/
structure Nd where
  kind : ByteArray
  key : Int
  text : ByteArray
  kids : List Int

theorem lt_of_cell {w : World} {b o : Nat} {u : Value} (h : w.cell? ⟨b, o, none⟩ = some u) : b < w.heap.size := by
  rcases Nat.lt_or_ge b w.heap.size with hlt | hge
  · exact hlt
  · simp [World.cell?, Array.getElem?_eq_none hge] at h

theorem cell_keep {w w' : World} {b o : Nat} {u : Value} (hb : Below w.heap.size w w') (h : w.cell? ⟨b, o, none⟩ = some u) : w'.cell? ⟨b, o, none⟩ = some u :=
  (hb.cell (p := ⟨b, o, none⟩) (lt_of_cell h)).trans h

theorem below_drewN' {B : Nat} {a w : World} (h : Below B a w) (n : Nat) : Below B a (w.drewN n) := ⟨h.os, h.tape, h.output, h.size, h.block⟩

theorem add_none (b o j : Nat) : (⟨b, o, none⟩ : Addr).add j = ⟨b, o + j, none⟩ := by
  unfold Addr.add
  split
  · rename_i h; subst h; rfl
  · rfl

/-- v is a slice whose elements are the one-cell values xs. -/
def Vals (w : World) (v : Value) (xs : List Value) : Prop :=
  ∃ (A : Option Addr) (cap : Nat), v = .slice A xs.length cap ∧ xs.length ≤ cap ∧ cap ≤ maxLen ∧
    (0 < xs.length → ∃ b off, A = some ⟨b, off, none⟩ ∧ ∀ j u, xs[j]? = some u → w.cell? ⟨b, off + j, none⟩ = some u)

theorem Vals.keep {w w' : World} {v : Value} {xs : List Value} (h : Vals w v xs) (hb : Below w.heap.size w w') : Vals w' v xs := by
  obtain ⟨A, cap, rfl, h1, h2, h3⟩ := h
  refine ⟨A, cap, rfl, h1, h2, fun hp => ?_⟩
  obtain ⟨b, off, rfl, hc⟩ := h3 hp
  exact ⟨b, off, rfl, fun j u hu => cell_keep hb (hc j u hu)⟩

theorem Vals.at {w : World} {A : Option Addr} {n cap k : Nat} {xs : List Value} {x : Value} (h : Vals w (.slice A n cap) xs) (hx : xs[k]? = some x) : ∃ b off, A = some ⟨b, off, none⟩ ∧ w.cell? ⟨b, off + k, none⟩ = some x := by
  obtain ⟨A', cap', hv, _, _, h3⟩ := h
  have hk : k < xs.length := by rcases Nat.lt_or_ge k xs.length with h | h; exact h; simp [List.getElem?_eq_none h] at hx
  obtain ⟨b, off, rfl, hc⟩ := h3 (by omega)
  injection hv with e1
  exact ⟨b, off, e1, hc k x hx⟩
theorem Vals.len {w : World} {A : Option Addr} {n cap : Nat} {xs : List Value} (h : Vals w (.slice A n cap) xs) : n = xs.length ∧ n ≤ cap ∧ cap ≤ maxLen := by
  obtain ⟨A', cap', hv, h1, h2, _⟩ := h
  injection hv with _ e2 e3
  exact ⟨e2, by rw [e2, e3]; exact h1, by rw [e3]; exact h2⟩
theorem Vals.form {w : World} {v : Value} {xs : List Value} (h : Vals w v xs) : ∃ A cap, v = .slice A xs.length cap ∧ xs.length ≤ cap ∧ cap ≤ maxLen := by
  obtain ⟨A', cap', hv, h1, h2, _⟩ := h
  exact ⟨A', cap', hv, h1, h2⟩

theorem Vals.take {w : World} {A : Option Addr} {n cap : Nat} {xs : List Value} (h : Vals w (.slice A n cap) xs) (k : Nat) (hk : k ≤ n) : Vals w (.slice A k cap) (xs.take k) := by
  obtain ⟨A', cap', hv, h1, h2, h3⟩ := h
  injection hv with e1 e2 e3
  subst e1 e2 e3
  have hl : (xs.take k).length = k := by simp; omega
  refine ⟨A, cap, by rw [hl], by omega, h2, fun hp => ?_⟩
  obtain ⟨b, off, e, hc⟩ := h3 (by omega)
  refine ⟨b, off, e, fun j u hu => hc j u ?_⟩
  rw [List.getElem?_take] at hu
  split at hu
  · exact hu
  · cases hu
theorem Vals.drop {w : World} {A : Option Addr} {n cap : Nat} {xs : List Value} (h : Vals w (.slice A n cap) xs) (k : Nat) (hk : k ≤ n) : Vals w (.slice (if cap = k then A else A.map (·.add k)) (n - k) (cap - k)) (xs.drop k) := by
  obtain ⟨A', cap', hv, h1, h2, h3⟩ := h
  injection hv with e1 e2 e3
  subst e1 e2 e3
  have hl : (xs.drop k).length = xs.length - k := by simp
  refine ⟨_, cap - k, by rw [hl], by omega, by omega, fun hp => ?_⟩
  obtain ⟨b, off, rfl, hc⟩ := h3 (by omega)
  rw [if_neg (by omega)]
  refine ⟨b, off + k, by simp [add_none], fun j u hu => ?_⟩
  rw [List.getElem?_drop] at hu
  rw [Nat.add_assoc]
  exact hc _ u hu

theorem Vals.of_own {w : World} {base : Nat} {e : TypeId} {v : Value} {n : Nat} {xs : List Value} (h : w.ownsRow base e 1 v n xs) : Vals w v xs := by
  have hn : xs.length = n := by have := h.1; omega
  subst hn
  rcases h.2 with ⟨rfl, h0⟩ | ⟨g, cap, cur, rfl, _, hg, h1, h2, h3, h4⟩
  · exact ⟨none, 0, by rw [h0], by omega, by simp [maxLen], fun hp => by omega⟩
  · refine ⟨_, cap, rfl, h1, h2, fun _ => ⟨g, 0, rfl, fun j u hu => ?_⟩⟩
    have := h.cells (g := g) rfl j u hu
    rwa [add_none] at this

theorem Vals.lit (w : World) (cs : Array Value) (e : TypeId) (n : Nat) (hn : cs.size = n) (hm : n ≤ 1048576) : Vals (w.alloc (.cells cs e)) (.slice (some ⟨w.heap.size, 0, none⟩) n n) cs.toList :=
  Vals.of_own (World.ownsRow_lit (base := 0) (e := e) (size := 1) w cs n (Nat.zero_le _) (by simp only [maxLen]; omega) (by omega))

theorem Vals.nil (w : World) : Vals w (.slice none 0 0) [] := ⟨none, 0, rfl, by simp, by simp [maxLen], fun h => by simp at h⟩

def Ints (w : World) (v : Value) (l : List Int) : Prop := Vals w v (l.map (.int .i64))
def Strs (w : World) (v : Value) (l : List ByteArray) : Prop := Vals w v (l.map .string)
def Bools (w : World) (v : Value) (l : List Bool) : Prop := Vals w v (l.map .bool)
def Bytes (w : World) (v : Value) (l : List Int) : Prop := Vals w v (l.map (.int .u8))

theorem Ints.keep {w w' : World} {v : Value} {l : List Int} (h : Ints w v l) (hb : Below w.heap.size w w') : Ints w' v l := Vals.keep h hb

/-- The four cells of a node whose list of kids is the slice kv. -/
def ndCells (nd : Nd) (kv : Value) : List Value := [.string nd.kind, .int .i64 nd.key, .string nd.text, kv]

/-- v is a slice of nodes; kv i: the slice of the kids of node i. -/
def Nodes (w : World) (v : Value) (ns : List Nd) (kv : Nat → Value) : Prop :=
  (∃ (A : Option Addr) (cap : Nat), v = .slice A ns.length cap ∧ ns.length ≤ cap ∧ cap ≤ maxLen ∧
    (0 < ns.length → ∃ b off, A = some ⟨b, off, none⟩ ∧ ∀ i nd, ns[i]? = some nd → w.cell? ⟨b, off + i * 4, none⟩ = some (.string nd.kind) ∧ w.cell? ⟨b, off + i * 4 + 1, none⟩ = some (.int .i64 nd.key) ∧
      w.cell? ⟨b, off + i * 4 + 2, none⟩ = some (.string nd.text) ∧ w.cell? ⟨b, off + i * 4 + 3, none⟩ = some (kv i))) ∧
  ∀ i nd, ns[i]? = some nd → Ints w (kv i) nd.kids

theorem Nodes.keep {w w' : World} {v : Value} {ns : List Nd} {kv : Nat → Value} (h : Nodes w v ns kv) (hb : Below w.heap.size w w') : Nodes w' v ns kv := by
  obtain ⟨⟨A, cap, rfl, h1, h2, h3⟩, h4⟩ := h
  refine ⟨⟨A, cap, rfl, h1, h2, fun hp => ?_⟩, fun i nd hi => (h4 i nd hi).keep hb⟩
  obtain ⟨b, off, rfl, hc⟩ := h3 hp
  refine ⟨b, off, rfl, fun i nd hi => ?_⟩
  obtain ⟨c0, c1, c2, c3⟩ := hc i nd hi
  exact ⟨cell_keep hb c0, cell_keep hb c1, cell_keep hb c2, cell_keep hb c3⟩

theorem Nodes.at {w : World} {A : Option Addr} {n cap k : Nat} {ns : List Nd} {kv : Nat → Value} {nd : Nd} (h : Nodes w (.slice A n cap) ns kv) (hx : ns[k]? = some nd) :
    ∃ b off KA kc, A = some ⟨b, off, none⟩ ∧ kv k = .slice KA nd.kids.length kc ∧ w.cell? ⟨b, off + k * 4, none⟩ = some (.string nd.kind) ∧ w.cell? ⟨b, off + k * 4 + 1, none⟩ = some (.int .i64 nd.key) ∧
      w.cell? ⟨b, off + k * 4 + 2, none⟩ = some (.string nd.text) ∧ w.cell? ⟨b, off + k * 4 + 3, none⟩ = some (.slice KA nd.kids.length kc) ∧ nd.kids.length ≤ kc ∧ kc ≤ maxLen := by
  obtain ⟨⟨A', cap', hv, _, _, h3⟩, h4⟩ := h
  have hk : k < ns.length := by rcases Nat.lt_or_ge k ns.length with h | h; exact h; simp [List.getElem?_eq_none h] at hx
  obtain ⟨b, off, rfl, hc⟩ := h3 (by omega)
  injection hv with e1
  obtain ⟨KA, kc, hkv, h5, h6, _⟩ := h4 k nd hx
  simp only [List.length_map] at hkv h5
  obtain ⟨c0, c1, c2, c3⟩ := hc k nd hx
  rw [hkv] at c3
  exact ⟨b, off, KA, kc, e1, hkv, c0, c1, c2, c3, h5, h6⟩
theorem Nodes.form {w : World} {v : Value} {ns : List Nd} {kv : Nat → Value} (h : Nodes w v ns kv) : ∃ A cap, v = .slice A ns.length cap ∧ ns.length ≤ cap ∧ cap ≤ maxLen := by
  obtain ⟨⟨A', cap', hv, h1, h2, _⟩, _⟩ := h
  exact ⟨A', cap', hv, h1, h2⟩

/-- The cells of nodes, one after another. -/
def nodesCells : List Nd → (Nat → Value) → List Value
  | [], _ => []
  | nd :: r, kv => ndCells nd (kv 0) ++ nodesCells r (fun i => kv (i + 1))

theorem nodesCells_length : ∀ (ns : List Nd) (kv : Nat → Value), (nodesCells ns kv).length = ns.length * 4
  | [], _ => rfl
  | nd :: r, kv => by simp [nodesCells, ndCells, nodesCells_length r]; omega

theorem nodesCells_snoc : ∀ (ns : List Nd) (nd : Nd) (kv : Nat → Value), nodesCells (ns ++ [nd]) kv = nodesCells ns kv ++ ndCells nd (kv ns.length)
  | [], nd, kv => by simp [nodesCells]
  | a :: r, nd, kv => by simp [nodesCells, nodesCells_snoc r]

theorem nodesCells_get : ∀ (ns : List Nd) (kv : Nat → Value) (i c : Nat) (nd : Nd), ns[i]? = some nd → c < 4 → (nodesCells ns kv)[i * 4 + c]? = (ndCells nd (kv i))[c]?
  | [], _, _, _, _, h, _ => by simp at h
  | a :: r, kv, 0, c, nd, h, hc => by
    simp only [List.getElem?_cons_zero, Option.some.injEq] at h
    subst h
    rw [nodesCells, List.getElem?_append_left (by simp [ndCells]; omega)]
    simp
  | a :: r, kv, i + 1, c, nd, h, hc => by
    simp only [List.getElem?_cons_succ] at h
    rw [nodesCells, List.getElem?_append_right (by simp [ndCells]; omega)]
    have := nodesCells_get r (fun i => kv (i + 1)) i c nd h hc
    rw [← this]
    congr 1
    simp [ndCells]; omega

theorem Nodes.of_own {w : World} {base : Nat} {e : TypeId} {v : Value} {n : Nat} {ns : List Nd} {kv : Nat → Value} (h : w.ownsRow base e 4 v n (nodesCells ns kv)) (hk : ∀ i nd, ns[i]? = some nd → Ints w (kv i) nd.kids) : Nodes w v ns kv := by
  refine ⟨?_, hk⟩
  have hn : ns.length = n := by have := h.1; rw [nodesCells_length] at this; omega
  subst hn
  rcases h.2 with ⟨rfl, h0⟩ | ⟨g, cap, cur, rfl, _, hg, h1, h2, h3, h4⟩
  · exact ⟨none, 0, by rw [h0], by omega, by simp [maxLen], fun hp => by omega⟩
  · refine ⟨_, cap, rfl, h1, h2, fun _ => ⟨g, 0, rfl, fun i nd hi => ?_⟩⟩
    have hc : ∀ c u, c < 4 → (ndCells nd (kv i))[c]? = some u → w.cell? ⟨g, i * 4 + c, none⟩ = some u := fun c u hc hu => by
      have := h.cells (g := g) rfl (i * 4 + c) u (by rw [nodesCells_get ns kv i c nd hi hc]; exact hu)
      rw [add_none] at this
      simpa using this
    refine ⟨?_, ?_, ?_, ?_⟩
    · have := hc 0 _ (by omega) rfl; simpa using this
    · have := hc 1 _ (by omega) rfl; simpa using this
    · have := hc 2 _ (by omega) rfl; simpa using this
    · have := hc 3 _ (by omega) rfl; simpa using this

/-- What is known of a slice type t with elements of type e: their cells and bytes. -/
def Elem (P : Program) (t e : TypeId) (size bytes : Nat) : Prop :=
  P.underlying t = some (.slice e) ∧ 0 < size ∧ 0 < bytes ∧ ∃ i z, P.info? e = some i ∧ i.zero = some z ∧ i.size = size ∧ i.bytes = bytes ∧ z.cells.size = size

theorem Elem.mk {P : Program} {t e : TypeId} {size bytes : Nat} {z : Value} (ht : P.underlying t = some (.slice e)) (h : (P.info? e).map (fun i => (i.zero, i.size, i.bytes)) = some (some z, size, bytes))
    (hz : z.cells.size = size) (h1 : 0 < size) (h2 : 0 < bytes) : Elem P t e size bytes := by
  obtain ⟨i, hi, hz0, hz1, hz2⟩ := info_parts h
  exact ⟨ht, h1, h2, i, z, hi, hz0, hz1, hz2, hz⟩

theorem World.ownsRow.mono_base {w : World} {base base' : Nat} {e : TypeId} {size : Nat} {v : Value} {n : Nat} {xs : List Value} (h : w.ownsRow base e size v n xs) (hb : base' ≤ base) : w.ownsRow base' e size v n xs := by
  refine ⟨h.1, ?_⟩
  rcases h.2 with h2 | ⟨g, cap, cur, h1, h2, h3⟩
  · exact .inl h2
  · exact .inr ⟨g, cap, cur, h1, by omega, h3⟩

/-- 'out = append(out, x)': the one-element slice has just been made. -/
theorem wpList_push {P : Program} {w : World} {ops : Array Oper} {rest : List Oper} {o : Oper} {a : Act} {Q : Exit → Act → World → Prop} (hgd : o.guard = none) (s x : Operand) (t : TypeId)
    (ho : o.op = .call { callee := .builtin .append, args := #[s, x], argTypes := #[t, t] })
    {base : Nat} {e : TypeId} {size bytes : Nat} (E : Elem P t e size bytes) {v : Value} {n : Nat} {xs : List Value} (hs : a.eval s = v) (hown : w.ownsRow base e size v n xs)
    {cs : Array Value} {H : Nat} (hx : a.eval x = .slice (some ⟨H, 0, none⟩) 1 1) (hH : w.heap.size = H) (hl : cs.size = size) (h1 : ∀ u ∈ cs.toList, u.oneCell' = true)
    (hbytes : (n + 1) * bytes ≤ 140737488355328) (hbase : base ≤ w.heap.size)
    (h : ∀ g cap w', w'.ownsRow base e size (.slice (some ⟨g, 0, none⟩) (n + 1) cap) (n + 1) (xs ++ cs.toList) → Below base w w' → w.grownBy w' v.ownBlock → g < w'.heap.size → (v.ownBlock = some g ∨ w.heap.size ≤ g) →
      wpList P ops Q rest (a.put o.dst (.slice (some ⟨g, 0, none⟩) (n + 1) cap)) w') : wpList P ops Q (o :: rest) a (w.alloc (.cells cs e)) := by
  subst hH
  obtain ⟨ht, hsz, hb0, i, z, hi, hz, hsize, hby, hzs⟩ := E
  have hn1 : n + 1 ≤ 140737488355328 := Nat.le_trans (Nat.le_mul_of_pos_right _ hb0) hbytes
  refine wpList_append_lies (w.alloc (.cells cs e)) hgd s x t ho base e i z size bytes ht hi hz hsize hby hzs hsz v n xs hs (hown.alloc _) ⟨w.heap.size, 0, none⟩ 1 1 cs.toList hx (by simp [hl]) ?_ h1 (by omega) (by simp only [maxLen]; omega) hbytes (by simp; omega) (w.heap.size + 1) (by simp) ?_
  · exact World.news_of_block (heap_alloc_new w _)
  · intro g cap w' h2 h3 h4 h5
    have hg : w.grownBy w' v.ownBlock := ⟨h3.os, h3.tape, h3.output, Nat.le_trans (by simp) h3.size, fun k hk hne => (h3.block k (by simp; omega) hne).trans (Below.heap_alloc w _ k hk)⟩
    refine h g cap w' h2 ?_ hg h5 ?_
    · exact (Below.refl base w).grown hg hbase (fun k hk => (hown.lt k hk).1)
    · rcases h4 with h4 | h4
      · exact .inl h4
      · exact .inr (by omega)

/-- make([]T, 0, n): one equation for every world. -/
theorem Elem.make0 {P : Program} {t e : TypeId} {size bytes : Nat} (E : Elem P t e size bytes) (n : Nat) (hb : bytes * n ≤ 281474976710656) (h63 : n ≤ 9223372036854775807) :
    ∃ C : Array Value, C.size = n * size ∧ ∀ W : World, (Instr.makeSlice t (.int .i64 0) (.int .i64 (n : Int))).run P W = .ok (.slice (some ⟨W.heap.size, 0, none⟩) 0 n) (W.alloc (.cells C e)) := by
  obtain ⟨ht, hsz, hb0, i, z, hi, hz, hsize, hby, hzs⟩ := E
  refine ⟨madeCells z.cells (n * i.size), by rw [size_madeCells, hsize], fun W => ?_⟩
  have hq : (bytes : Int) * (n : Int) ≤ 281474976710656 := by
    have hq : ((bytes * n : Nat) : Int) ≤ 281474976710656 := by omega
    rwa [Int.natCast_mul] at hq
  have h := run_make (P := P) W t e i z ht hi hz .i64 .i64 0 n (by omega) (by omega) (by rw [hby]; exact hq) (by omega)
  simpa using h

/-- make([]T, n), elements of one cell: one equation for every world. -/
theorem Elem.make {P : Program} {t e : TypeId} {bytes : Nat} (E : Elem P t e 1 bytes) {z : Value} (hz' : (P.info? e).map (·.zero) = some (some z)) (hc : z.cells = #[z]) (n : Nat) (hb : bytes * n ≤ 281474976710656) (h63 : n ≤ 9223372036854775807) :
    ∃ C : Array Value, C.toList = List.replicate n z ∧ ∀ W : World, (Instr.makeSlice t (.int .i64 (n : Int)) (.int .i64 (n : Int))).run P W = .ok (.slice (some ⟨W.heap.size, 0, none⟩) n n) (W.alloc (.cells C e)) := by
  obtain ⟨ht, hsz, hb0, i, z', hi, hz, hsize, hby, hzs⟩ := E
  have : z' = z := by rw [hi] at hz'; simp [hz] at hz'; exact hz'
  subst this
  refine ⟨madeCells z'.cells (n * i.size), by rw [hc, hsize, Nat.mul_one, toList_madeCells_one], fun W => ?_⟩
  have hq : (bytes : Int) * (n : Int) ≤ 281474976710656 := by
    have hq : ((bytes * n : Nat) : Int) ≤ 281474976710656 := by omega
    rwa [Int.natCast_mul] at hq
  have h := run_make (P := P) W t e i z' ht hi hz .i64 .i64 n n (by omega) (by omega) (by rw [hby]; exact hq) (by omega)
  simpa using h

/-- A row of elements of type e lies in no block of another type. -/
theorem own_ne {w : World} {base : Nat} {e t : TypeId} {size n : Nat} {v : Value} {xs : List Value} {g : Nat} {cs : Array Value} {fr : Nat × Nat} (h : w.ownsRow base e size v n xs) (hg : w.heap[g]? = some (.cells cs t fr)) (hne : e ≠ t) : v.ownBlock ≠ some g := by
  rcases h.2 with ⟨rfl, _⟩ | ⟨g', cap, cur, rfl, _, hh, _⟩
  · simp [Value.ownBlock]
  · intro he
    have : g' = g := by simpa [Value.ownBlock] using he
    subst this
    rw [hg] at hh
    injection hh with hh
    injection hh with _ h2
    exact hne h2.symm

theorem lt_of_heap {w : World} {g : Nat} {o : Obj} (h : w.heap[g]? = some o) : g < w.heap.size := by
  rcases Nat.lt_or_ge g w.heap.size with hlt | hge
  · exact hlt
  · rw [Array.getElem?_eq_none hge] at h; cases h

theorem cell_of_heap {w : World} {g : Nat} {cs : Array Value} {t : TypeId} {fr : Nat × Nat} (h : w.heap[g]? = some (.cells cs t fr)) (j : Nat) {u : Value} (hj : cs[j]? = some u) : w.cell? ⟨g, j, none⟩ = some u := by
  rw [cell_of_row w g j cs t fr h]; exact hj

theorem frozen_of_heap {w : World} {g : Nat} {cs : Array Value} {t : TypeId} (h : w.heap[g]? = some (.cells cs t (0, 0))) (j : Nat) : w.frozen? ⟨g, j, none⟩ = false := frozen_of_row w g j cs t h

theorem own_below {w w' : World} {base : Nat} {e : TypeId} {size n : Nat} {v : Value} {xs : List Value} (h : w.ownsRow base e size v n xs) (hb : Below w.heap.size w w') : w'.ownsRow base e size v n xs :=
  h.kept (row := none) ⟨hb.os, hb.tape, hb.output, hb.size, fun k hk _ => hb.block k hk⟩ (by cases hv : v.ownBlock with | none => exact .inl rfl | some b => exact .inr (by simp))

theorem own_own_ne {w : World} {base base' : Nat} {e e' : TypeId} {size size' n n' : Nat} {v v' : Value} {xs xs' : List Value} (h : w.ownsRow base e size v n xs) (h' : w.ownsRow base' e' size' v' n' xs') (hne : e ≠ e') : v.ownBlock = none ∨ v.ownBlock ≠ v'.ownBlock := by
  rcases h'.2 with ⟨rfl, _⟩ | ⟨g', cap, cur, rfl, _, hh, _⟩
  · cases hv : v.ownBlock with
    | none => exact .inl rfl
    | some b => exact .inr (by simp [Value.ownBlock])
  · exact .inr (own_ne h hh hne)

/-- An int that fits. -/
def Fits (n : Int) : Prop := -9223372036854775808 ≤ n ∧ n ≤ 9223372036854775807
end Go.Proofs.Ytgkhnccedejjnaa
