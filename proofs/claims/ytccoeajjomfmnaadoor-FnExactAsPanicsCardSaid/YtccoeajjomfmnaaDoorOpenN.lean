/-
  An argument that is a slice of nodes, opened.
  Conditions: none.
-/
import Derived.Test.YtccoeajjomfmnaaDoorOpen
import Derived.Deep.Fields
namespace Go.Proofs.YtccoeajjomfmnaaDoor
open Go.RowKit Go.ChangeShapes Go.WideShapes Go.Deep

section
variable {H : Type} {enc : TypeId × Value → H} {P : Program} {w : World}

/-- For every element and every field its cell and its reading. -/
theorem open_struct_slice {t e : TypeId} {fs : Array Field} {fuel : Nat} {cs : List Value} {x : DataW H × List MemPlace} (ht : P.underlying t = some (.slice e)) (he : P.underlying e = some (.struct fs))
    (hone : oneCellFields P fs = true) (hC : P.cellsOf e = fs.size) (h : DataW.trod enc P w 0 (fun _ => true) true fuel t cs = some x) :
    (cs = [.slice none 0 0] ∧ x = (.nil, [])) ∨
    ∃ (a : Addr) (len cap : Nat) (D : Nat → DataW H) (spare : List (DataW H)), cs = [.slice (some a) len cap] ∧ len ≤ cap ∧ cap ≤ maxLen ∧ x.1 = .slice ((List.range len).map D) spare ∧
      ∀ i, i < len → ∃ (n : Nat) (ys : List (DataW H × List MemPlace)), ys.length = fs.size ∧ D i = .agg (ys.map (·.1)) ∧ ∀ (j : Nat) (f : Field), fs[j]? = some f → ∃ (v : Value) (y : DataW H × List MemPlace), w.cell? (a.add (i * fs.size + j)) = some v ∧ ys[j]? = some y ∧ DataW.trod enc P w 0 (fun _ => true) true n f.type [v] = some y := by
  rcases open_slice ht h with h0 | ⟨a, len, cap, m, n, D, Pl, hcs, hb, hl, hm, hmm, hx, hi⟩
  · exact .inl h0
  · refine .inr ⟨a, len, cap, D, _, hcs, hl, hm, by rw [hx], fun i him => ?_⟩
    simp only [if_true] at hmm
    obtain ⟨cs', hc, ht'⟩ := hi i (by omega)
    rw [hC] at hc
    obtain ⟨ys, n', hn', hy, hlen, hyl, hf⟩ := DataW.trod_struct he ht'
    obtain ⟨_, hcl, hat⟩ := World.cells?_some hc
    simp only [Prod.mk.injEq] at hy
    refine ⟨n', ys, hyl, hy.1, fun j f hj => ?_⟩
    obtain ⟨ho, hk⟩ := hone_of hone j f hj
    have hjl : j < fs.size := (Array.getElem?_eq_some_iff.1 hj).1
    have hcell := hat j hjl
    have hv : cs'[j]? = some (cs'[j]'(by omega)) := List.getElem?_eq_getElem (by omega)
    have h1 := hf j f hj
    rw [ho, hk] at h1
    have hone' : (cs'.drop j).take 1 = [cs'[j]'(by omega)] := by
      rw [List.drop_eq_getElem_cons (by omega)]
      rfl
    rw [hone'] at h1
    have hys : ys[j]? = some (ys[j]'(by omega)) := List.getElem?_eq_getElem (by omega)
    refine ⟨_, _, ?_, hys, h1.trans hys⟩
    rw [← Go.Deep.add_add, hcell, hv]

theorem choose_nodes {p : Nat → Nd → Value → Prop} : ∀ n : Nat, (∀ i, i < n → ∃ nd kv, p i nd kv) → ∃ (ns : List Nd) (kv : Nat → Value), ns.length = n ∧ ∀ i nd, ns[i]? = some nd → p i nd (kv i)
  | 0, _ => ⟨[], fun _ => .nilIface, rfl, fun i nd h => by simp at h⟩
  | n + 1, h => by
    obtain ⟨ns, kv, hl, hp⟩ := choose_nodes n (fun i hi => h i (by omega))
    obtain ⟨nd, k, hk⟩ := h n (by omega)
    refine ⟨ns ++ [nd], fun i => if i = n then k else kv i, by simp [hl], fun i x hx => ?_⟩
    by_cases hi : i = n
    · subst hi
      rw [List.getElem?_append_right (by omega), hl, Nat.sub_self] at hx
      simp only [List.getElem?_cons_zero, Option.some.injEq] at hx
      subst hx
      simpa using hk
    · have hin : i < ns.length := by
        rcases Nat.lt_or_ge i (ns ++ [nd]).length with h | h
        · simp at h; omega
        · rw [List.getElem?_eq_none h] at hx; cases hx
      rw [List.getElem?_append_left hin] at hx
      simp only [if_neg hi]
      exact hp i x hx

theorem open_nodes_list {t e ts ti tk te : TypeId} {f0 f1 f2 f3 : Field} {v : Value} {d : DataW H} {p : List MemPlace} (ht : P.underlying t = some (.slice e)) (he : P.underlying e = some (.struct #[f0, f1, f2, f3]))
    (hs : P.underlying ts = some .string) (hi : P.underlying ti = some (.int .i64)) (hk : P.underlying tk = some (.slice te)) (hte : P.underlying te = some (.int .i64)) (hce : P.cellsOf te = 1) (h0 : f0.type = ts) (h1 : f1.type = ti) (h2 : f2.type = ts) (h3 : f3.type = tk)
    (hone : oneCellFields P #[f0, f1, f2, f3] = true) (hC : P.cellsOf e = 4) (hB : P.bytesOf e = 64) {a0 : Option Addr} {l0 c0 : Nat} (hv : v = .slice a0 l0 c0)
    (h : DataW.Trod enc P w 0 (fun _ => true) true t v d p) (hz : ∀ el sp, d = .slice el sp → (el.length + sp.length) * P.bytesOf e ≤ reachBytes) :
    ∃ (ns : List Nd) (kv : Nat → Value), Nodes w v ns kv ∧ ns.length * 64 ≤ 140737488351232 := by
  subst hv
  obtain ⟨fuel, hf⟩ := h
  rcases open_struct_slice ht he hone hC hf with ⟨hcs, hx⟩ | ⟨a, len, cap, D, spare, hcs, hl, hm, hx, hall⟩
  · simp [Value.cells] at hcs
    obtain ⟨rfl, rfl, rfl⟩ := hcs
    exact ⟨[], fun _ => .nilIface, ⟨⟨none, 0, rfl, by simp, by simp [maxLen], fun h => by simp at h⟩, fun i nd h => by simp at h⟩, by simp⟩
  · simp [Value.cells] at hcs
    obtain ⟨rfl, rfl, rfl⟩ := hcs
    have hbig := hz _ _ hx
    rw [hB, List.length_map, List.length_range] at hbig
    have hr : reachBytes = 140737488351232 := by decide
    have hbase : ∀ i, i < l0 → ∃ (nd : Nd) (kv : Value), w.cell? (a.add (i * 4)) = some (.string nd.kind) ∧ w.cell? (a.add (i * 4 + 1)) = some (.int .i64 nd.key) ∧ w.cell? (a.add (i * 4 + 2)) = some (.string nd.text) ∧ w.cell? (a.add (i * 4 + 3)) = some kv ∧ Ints w kv nd.kids := by
      intro i hil
      obtain ⟨n, ys, _, _, hfld⟩ := hall i hil
      obtain ⟨v0, y0, c0', _, r0⟩ := hfld 0 f0 rfl
      obtain ⟨v1, y1, c1, _, r1⟩ := hfld 1 f1 rfl
      obtain ⟨v2, y2, c2, _, r2⟩ := hfld 2 f2 rfl
      obtain ⟨v3, y3, c3, _, r3⟩ := hfld 3 f3 rfl
      rw [h0] at r0
      rw [h1] at r1
      rw [h2] at r2
      rw [h3] at r3
      obtain ⟨s0, e0, _, _⟩ := DataW.trod_string hs r0
      obtain ⟨n1, e1, _, _⟩ := DataW.trod_int hi r1
      obtain ⟨s2, e2, _, _⟩ := DataW.trod_string hs r2
      simp only [List.cons.injEq, and_true] at e0 e1 e2
      subst e0 e1 e2
      have hsl : ∃ A n c, v3 = .slice A n c := by
        rcases open_slice hk r3 with ⟨e3, _⟩ | ⟨a3, l3, cp3, m3, n3, D3, P3, e3, _⟩
        · simp only [List.cons.injEq, and_true] at e3
          exact ⟨_, _, _, e3⟩
        · simp only [List.cons.injEq, and_true] at e3
          exact ⟨_, _, _, e3⟩
      obtain ⟨A3, n3, c3', rfl⟩ := hsl
      obtain ⟨l, sp, hvals, _⟩ := open_ints_list (k := .i64) (d := y3.1) (p := y3.2) hk hte hce rfl ⟨n, by simpa [Value.cells] using r3⟩
      exact ⟨⟨s0, n1, s2, l⟩, .slice A3 n3 c3', by simpa using c0', by simpa using c1, by simpa using c2, by simpa using c3, hvals⟩
    obtain ⟨ns, kv, hlen, hp⟩ := choose_nodes l0 hbase
    subst hlen
    refine ⟨ns, kv, ⟨⟨some a, c0, rfl, hl, hm, fun hpos => ?_⟩, fun i nd hi => (hp i nd hi).2.2.2.2⟩, ?_⟩
    · obtain ⟨c0', _⟩ := hp 0 ns[0] (List.getElem?_eq_getElem hpos)
      obtain ⟨b, off, spot⟩ := a
      have hspot : spot = none := by simpa [Addr.add] using World.cell?_spot c0'
      subst hspot
      refine ⟨b, off, rfl, fun i nd hi => ?_⟩
      obtain ⟨q0, q1, q2, q3, _⟩ := hp i nd hi
      rw [add_none] at q0 q1 q2 q3
      exact ⟨q0, by rw [Nat.add_assoc]; exact q1, by rw [Nat.add_assoc]; exact q2, by rw [Nat.add_assoc]; exact q3⟩
    · have : (ns.length + spare.length) * 64 ≤ 140737488351232 := by omega
      have h2 : ns.length * 64 ≤ (ns.length + spare.length) * 64 := Nat.mul_le_mul_right _ (by omega)
      omega
end
end Go.Proofs.YtccoeajjomfmnaaDoor
