/-
  Nodes that a call has made: rows of its own; and what cut, above and beside make of nodes, as data.
  Conditions: none.
-/
import Derived.Test.YtccoeajjomfmnaaDoorNodes
import Derived.Test.YtccoeajjomfmnaaDoorMem2
import Derived.Test.YtccoeajjomfmnaaDoorPlain
import Derived.Test.YtccoeajjomfmnaaDoorSpecMade
namespace Go.Proofs.YtccoeajjomfmnaaDoor
open Go.RowKit Go.Lib

/-- Nodes in rows of a call's own. -/
structure OwnN (base : Nat) (w : World) (v : Value) (ns : List Nd) (kv : Nat → Value) : Prop where
  row : w.ownsRow base 48 4 v ns.length (nodesCells ns kv)
  kids : ∀ (i : Nat) (nd : Nd), ns[i]? = some nd → w.ownsRow base 3 1 (kv i) nd.kids.length (nd.kids.map (.int .i64))

theorem OwnN.keep {base : Nat} {w w' : World} {v : Value} {ns : List Nd} {kv : Nat → Value} (h : OwnN base w v ns kv) (hb : Below w.heap.size w w') : OwnN base w' v ns kv :=
  ⟨own_below h.row hb, fun i nd hi => own_below (h.kids i nd hi) hb⟩
theorem OwnN.mono {base base' : Nat} {w : World} {v : Value} {ns : List Nd} {kv : Nat → Value} (h : OwnN base w v ns kv) (hb : base' ≤ base) : OwnN base' w v ns kv :=
  ⟨World.ownsRow.mono_base h.row hb, fun i nd hi => World.ownsRow.mono_base (h.kids i nd hi) hb⟩
theorem OwnN.nodes {base : Nat} {w : World} {v : Value} {ns : List Nd} {kv : Nat → Value} (h : OwnN base w v ns kv) : Nodes w v ns kv :=
  Nodes.of_own h.row fun i nd hi => Vals.of_own (h.kids i nd hi)

theorem cells_congr : ∀ (ns : List Nd) (kv kv' : Nat → Value), (∀ i, i < ns.length → kv i = kv' i) → nodesCells ns kv = nodesCells ns kv'
  | [], _, _, _ => rfl
  | nd :: r, kv, kv', h => by
    rw [nodesCells, nodesCells, h 0 (by simp), cells_congr r _ _ (fun i hi => h (i + 1) (by simpa using hi))]

/-- One node more. -/
theorem OwnN.pushed {base : Nat} {w w' : World} {v v' k' : Value} {ns : List Nd} {kv : Nat → Value} {nd : Nd} (h : OwnN base w v ns kv)
    (ho : w'.ownsRow base 48 4 v' (ns.length + 1) (nodesCells ns kv ++ ndCells nd k')) (hg : w.grownBy w' v.ownBlock) (hk : w.ownsRow base 3 1 k' nd.kids.length (nd.kids.map (.int .i64))) :
    OwnN base w' v' (ns ++ [nd]) (fun i => if i = ns.length then k' else kv i) := by
  have carry : ∀ u n xs, w.ownsRow base 3 1 u n xs → w'.ownsRow base 3 1 u n xs := fun u n xs hu => hu.kept hg (own_own_ne hu h.row (by decide))
  refine ⟨?_, fun i x hx => ?_⟩
  · rw [nodesCells_snoc, List.length_append, List.length_singleton, cells_congr ns _ kv (fun i hi => if_neg (by omega))]
    simpa using ho
  · by_cases hi : i = ns.length
    · subst hi
      rw [List.getElem?_append_right (Nat.le_refl _), Nat.sub_self] at hx
      simp only [List.getElem?_cons_zero, Option.some.injEq] at hx
      subst hx
      simp only [if_true]
      exact carry _ _ _ hk
    · have hin : i < ns.length := by
        rcases Nat.lt_or_ge i (ns ++ [nd]).length with h | h
        · simp at h; omega
        · rw [List.getElem?_eq_none h] at hx; cases hx
      rw [List.getElem?_append_left hin] at hx
      simp only [if_neg hi]
      exact carry _ _ _ (h.kids i x hx)

/-- 'out = append(out, xs...)': the elements xs may be none, out is not. -/
theorem wpList_spread0 {P : Program} {w : World} {ops : Array Oper} {rest : List Oper} {o : Oper} {a : Act} {Q : Exit → Act → World → Prop} (hgd : o.guard = none) (s x : Operand) (t : TypeId)
    (ho : o.op = .call { callee := .builtin .append, args := #[s, x], argTypes := #[t, t] })
    {base : Nat} {e : TypeId} {size bytes : Nat} (E : Elem P t e size bytes) {v : Value} {n : Nat} {xs : List Value} (hs : a.eval s = v) (hown : w.ownsRow base e size v n xs)
    {b off m c : Nat} {news : List Value} (hx : a.eval x = .slice (some ⟨b, off, none⟩) m c) (hl : news.length = m * size) (hnews : ∀ j u, news[j]? = some u → w.cell? ⟨b, off + j, none⟩ = some u) (h1 : ∀ u ∈ news, u.oneCell' = true)
    (hn : 0 < n) (hbytes : (n + m) * bytes ≤ 140737488355328) (hbase : base ≤ w.heap.size)
    (h : ∀ g cap w', w'.ownsRow base e size (.slice (some ⟨g, 0, none⟩) (n + m) cap) (n + m) (xs ++ news) → Below base w w' → w.grownBy w' v.ownBlock → wpList P ops Q rest (a.put o.dst (.slice (some ⟨g, 0, none⟩) (n + m) cap)) w') : wpList P ops Q (o :: rest) a w := by
  obtain ⟨ht, hsz, hb0, i, z, hi, hz, hsize, hby, hzs⟩ := E
  have hn1 : n + m ≤ 140737488355328 := Nat.le_trans (Nat.le_mul_of_pos_right _ hb0) hbytes
  refine wpList_append_own_at w hgd s x t ho base e i z size bytes ht hi hz hsize hby hzs hsz v n xs hs hown ⟨b, off, none⟩ m c news hx hl (fun j u hu => by rw [add_none]; exact hnews j u hu) h1 (by simp only [maxLen]; omega) hbytes hbase ?_
  intro v' w' h2 h3 _ _
  obtain ⟨g, cap, rfl, _, _⟩ := h2.form (by omega)
  exact h g cap w' h2 ((Below.refl base w).grown h3 hbase (fun k hk => (hown.lt k hk).1)) h3

theorem OwnN.apart {base : Nat} {w w' : World} {v : Value} {ns : List Nd} {kv : Nat → Value} {g : Nat} (h : OwnN base w v ns kv) {u : Value} {n : Nat} {xs : List Value} (hu : w.ownsRow base 48 4 u n xs) (hug : u.ownBlock = some g) (hg : w.grownBy w' (some g)) (hv : v.ownBlock ≠ some g) : OwnN base w' v ns kv :=
  ⟨h.row.kept hg (.inr hv), fun i nd hi => (h.kids i nd hi).kept hg (by have := own_own_ne (h.kids i nd hi) hu (by decide); rw [hug] at this; exact this)⟩

theorem cells_append : ∀ (a b : List Nd) (kv : Nat → Value), nodesCells (a ++ b) kv = nodesCells a kv ++ nodesCells b (fun i => kv (i + a.length))
  | [], b, kv => by simp [nodesCells]
  | nd :: r, b, kv => by
    have := cells_append r b (fun i => kv (i + 1))
    simp only [List.cons_append, nodesCells, this, List.append_assoc, List.length_cons]
    rfl

/-- Two rows of nodes, one behind the other. -/
theorem OwnN.append {base : Nat} {w w' : World} {v v2 v' : Value} {ns ms : List Nd} {kv kv2 : Nat → Value} (h : OwnN base w v ns kv) (h2 : OwnN base w v2 ms kv2)
    (ho : w'.ownsRow base 48 4 v' (ns.length + ms.length) (nodesCells ns kv ++ nodesCells ms kv2)) (hg : w.grownBy w' v.ownBlock) :
    OwnN base w' v' (ns ++ ms) (fun i => if i < ns.length then kv i else kv2 (i - ns.length)) := by
  have carry : ∀ u n xs, w.ownsRow base 3 1 u n xs → w'.ownsRow base 3 1 u n xs := fun u n xs hu => hu.kept hg (own_own_ne hu h.row (by decide))
  refine ⟨?_, fun i x hx => ?_⟩
  · rw [cells_append, List.length_append, cells_congr ns _ kv (fun i hi => if_pos hi), cells_congr ms _ kv2 (fun i hi => by rw [if_neg (by omega), Nat.add_sub_cancel])]
    exact ho
  · by_cases hi : i < ns.length
    · rw [List.getElem?_append_left hi] at hx
      simp only [if_pos hi]
      exact carry _ _ _ (h.kids i x hx)
    · rw [List.getElem?_append_right (by omega)] at hx
      simp only [if_neg hi]
      exact carry _ _ _ (h2.kids _ x hx)
theorem cells_one : ∀ (ns : List Nd) (kv : Nat → Value), (∀ i, i < ns.length → (kv i).oneCell' = true) → ∀ u ∈ nodesCells ns kv, u.oneCell' = true
  | [], _, _, u, h => by simp [nodesCells] at h
  | nd :: r, kv, hk, u, h => by
    rw [nodesCells] at h
    rcases List.mem_append.1 h with h | h
    · simp only [ndCells, List.mem_cons, List.not_mem_nil, or_false] at h
      rcases h with rfl | rfl | rfl | rfl
      · rfl
      · rfl
      · rfl
      · exact hk 0 (by simp)
    · exact cells_one r _ (fun i hi => hk (i + 1) (by simpa using hi)) u h
theorem OwnN.one {base : Nat} {w : World} {v : Value} {ns : List Nd} {kv : Nat → Value} (h : OwnN base w v ns kv) : ∀ u ∈ nodesCells ns kv, u.oneCell' = true :=
  cells_one ns kv fun i hi => by
    obtain ⟨A, c, e, _, _⟩ := (Vals.of_own (h.kids i _ (List.getElem?_eq_getElem hi))).form
    rw [e]
    rfl

theorem flat_step {α β : Type} (f : α → List β) (l : List α) (c : Nat) (h : c < l.length) : (l.take (c + 1)).flatMap f = (l.take c).flatMap f ++ f l[c] := by
  rw [List.take_succ_eq_append_getElem h, List.flatMap_append, List.flatMap_singleton]
theorem flat_le {α β : Type} (f : α → List β) (hf : ∀ x, (f x).length ≤ 1) : ∀ (l : List α), (l.flatMap f).length ≤ l.length
  | [] => by simp
  | a :: r => by
    have h1 := hf a
    have h2 := flat_le f hf r
    simp only [List.flatMap_cons, List.length_append, List.length_cons]
    omega
theorem flat_take_le {α β : Type} (f : α → List β) (hf : ∀ x, (f x).length ≤ 1) (l : List α) (c : Nat) : ((l.take c).flatMap f).length ≤ c := by
  have h1 := flat_le f hf (l.take c)
  have h2 : (l.take c).length ≤ c := List.length_take_le _ _
  omega
theorem map_take_succ {α β : Type} (f : α → β) (l : List α) (c : Nat) (h : c < l.length) : (l.take (c + 1)).map f = (l.take c).map f ++ [f l[c]] := by
  rw [List.take_succ_eq_append_getElem h, List.map_append]
  rfl

/-- A kid of a cut node. -/
def cutKid (n : Nat) (kd : ByteArray) (k : Int) : List Int := if 0 ≤ k ∧ k < (n : Int) then [k] else if kd = kMany ∨ kd = kJoin then [] else [0]
def cutNd (n : Nat) (nd : Nd) : Nd := ⟨nd.kind, nd.key, nd.text, nd.kids.flatMap (cutKid n nd.kind)⟩
/-- Nodes whose kids are less than their number. -/
def cutN (ns : List Nd) : List Nd := ns.map (cutNd ns.length)
theorem cutKid_one (n : Nat) (kd : ByteArray) (k : Int) : (cutKid n kd k).length ≤ 1 := by
  unfold cutKid
  split
  · simp
  · split <;> simp
/-- A kid that has moved on by d. -/
def upKid (d : Int) (k : Int) : List Int := if k < 1073741824 ∧ 0 ≤ k then [k + d] else []
def upNd (d : Int) (nd : Nd) : Nd := ⟨nd.kind, nd.key, nd.text, nd.kids.flatMap (upKid d)⟩
theorem upKid_one (d k : Int) : (upKid d k).length ≤ 1 := by
  unfold upKid
  split <;> simp
def kAbove : ByteArray := ⟨#[97, 98, 111, 118, 101]⟩
/-- Nodes with one more in front of them. -/
def aboveN (kind : ByteArray) (ns : List Nd) (extra : List Int) : List Nd := ⟨kind, 9, kAbove, 1 :: extra⟩ :: ns.map (upNd 1)
/-- Nodes of a join of two. -/
def besideN (a b : List Nd) : List Nd := (if a.length = 0 then [⟨kJoin, 9, kAbove, [0, 1]⟩] else aboveN kJoin (cutN a) [1 + (a.length : Int)]) ++ b.map (upNd (1 + (a.length : Int)))
end Go.Proofs.YtccoeajjomfmnaaDoor
