/-
  A row of bytes that a call owns, whose frozen stretch (what a conversion of a string to bytes leaves behind the row's end) touches none of its cells: appending to it, over any program.
  Conditions: the row takes at most 2^47 bytes.
-/
import Derived.Test.YtgkhnccedejjnaaMem
import Derived.Lib.AppendStr
import Derived.Lib.ConvBytes
import Derived.Lib.UnsafeStr
namespace Go.Proofs.Ytgkhnccedejjnaa
open Go.RowKit Go.Lib

/-- Bytes as cells. -/
def byteCells (l : List UInt8) : List Value := l.map fun b => Value.int .u8 b.toNat
theorem byteCells_length (l : List UInt8) : (byteCells l).length = l.length := by simp [byteCells]
theorem byteCells_one (l : List UInt8) : ∀ u ∈ byteCells l, u.oneCell' = true := by
  intro u hu
  simp only [byteCells, List.mem_map] at hu
  obtain ⟨b, _, rfl⟩ := hu
  rfl

/-- The block g is a row of cap bytes, the first of which are l; none of its cells is frozen. -/
def Buf (w : World) (base : Nat) (e : TypeId) (g cap : Nat) (l : List UInt8) : Prop :=
  base ≤ g ∧ l.length ≤ cap ∧ cap ≤ maxLen ∧ ∃ cur fz, w.heap[g]? = some (.cells cur e fz) ∧ (fz.2 = 0 ∨ cap ≤ fz.1) ∧ cur.size = cap ∧ cur.toList.take l.length = byteCells l

theorem Buf.lt {w : World} {base : Nat} {e : TypeId} {g cap : Nat} {l : List UInt8} (h : Buf w base e g cap l) : g < w.heap.size := by
  obtain ⟨_, _, _, cur, fz, hg, _⟩ := h
  exact lt_of_heap hg

theorem Buf.cell {w : World} {base : Nat} {e : TypeId} {g cap : Nat} {l : List UInt8} (h : Buf w base e g cap l) (j : Nat) (x : UInt8) (hx : l[j]? = some x) : w.cell? ((⟨g, 0, none⟩ : Addr).add j) = some (.int .u8 x.toNat) := by
  obtain ⟨_, _, _, cur, fz, hg, _, _, ht⟩ := h
  rw [add_none, Nat.zero_add]
  refine cell_of_heap hg j ?_
  have h1 : (byteCells l)[j]? = some (.int .u8 x.toNat) := by simp [byteCells, hx]
  rw [← ht, List.getElem?_take] at h1
  split at h1
  · simpa using h1
  · cases h1

theorem Buf.kept {w w' : World} {base : Nat} {e : TypeId} {g cap : Nat} {l : List UInt8} (h : Buf w base e g cap l) (hg : w'.heap[g]? = w.heap[g]?) : Buf w' base e g cap l := by
  obtain ⟨h1, h2, h3, cur, fz, h4, h5⟩ := h
  exact ⟨h1, h2, h3, cur, fz, hg.trans h4, h5⟩

theorem Buf.below {w w' : World} {base : Nat} {e : TypeId} {g cap : Nat} {l : List UInt8} (h : Buf w base e g cap l) (hb : Below w.heap.size w w') : Buf w' base e g cap l := h.kept (hb.block g h.lt)

/-- Cells that are not frozen are written one after another. -/
theorem storeCells_free (P : Program) (g o : Nat) (t : TypeId) (fz : Nat × Nat) : ∀ (vs : List Value) (i : Nat) (cur : Array Value) (w : World), w.heap[g]? = some (.cells cur t fz) → (fz.2 = 0 ∨ cur.size ≤ fz.1) → o + i + vs.length ≤ cur.size → (∀ v ∈ vs, v.oneCell' = true) →
    (storeCells ⟨g, o, none⟩ vs i).run P w = .ok () (w.setRow g (cur.toList.take (o + i) ++ vs ++ cur.toList.drop (o + i + vs.length)).toArray)
  | [], i, cur, w, hg, _, _, _ => by
    simp only [storeCells, List.append_nil, List.length_nil, Nat.add_zero, List.take_append_drop, Array.toArray_toList]
    rw [setRow_self w g cur t fz hg]
    rfl
  | v :: rest, i, cur, w, hg, hfz, hl, h1 => by
    have hi : o + i < cur.size := by simp at hl; omega
    have hcell : w.cell? ⟨g, o + i, none⟩ = some cur[o + i] := by simp [World.cell?, hg, hi]
    have hfro : w.frozen? ⟨g, o + i, none⟩ = false := by
      obtain ⟨lo, hi'⟩ := fz
      simp only [World.frozen?, hg, Bool.and_eq_false_iff, decide_eq_false_iff_not]
      simp only at hfz
      omega
    have hst : (store ((⟨g, o, none⟩ : Addr).add i) v).run P w = .ok () (w.setRow g (cur.setIfInBounds (o + i) v)) := by
      rw [add_none, run_store P w _ v _ (h1 v (by simp)), hcell]
      simp [hfro, setCell_eq_setRow w g (o + i) cur t fz v hg]
    have ih := storeCells_free P g o t fz rest (i + 1) (cur.setIfInBounds (o + i) v) (w.setRow g (cur.setIfInBounds (o + i) v)) (setRow_heap w g cur _ t _ hg) (by simpa using hfz) (by simp at hl ⊢; omega) (fun x hx => h1 x (by simp [hx]))
    simp only [storeCells, Sem.run_bind, hst, Result.andThen_ok, ih, setRow_setRow]
    congr 3
    have e := list_seg_step cur.toList (o + i) v rest (by simp at hl ⊢; omega)
    simpa [Array.toList_setIfInBounds, Nat.add_assoc] using e

section
variable {P : Program} {w : World} {base : Nat} {t u e : TypeId} {g cap : Nat} {l : List UInt8}

theorem Buf.roomed (h : Buf w base e g cap l) (m : List UInt8) (hroom : l.length + m.length ≤ cap) {cur : Array Value} {fz : Nat × Nat} (hg : w.heap[g]? = some (.cells cur e fz)) :
    Buf (w.setRow g (cur.toList.take l.length ++ byteCells m ++ cur.toList.drop (l.length + m.length)).toArray) base e g cap (l ++ m) := by
  obtain ⟨h1, h2, h3, cur', fz', hg', h4, h5, h6⟩ := h
  rw [hg] at hg'
  injection hg' with hg'
  injection hg' with e1 _ e3
  subst e1 e3
  refine ⟨h1, by simpa using hroom, h3, _, fz, setRow_heap w g cur _ e _ hg, h4, ?_, ?_⟩
  · simp only [List.size_toArray, List.length_append, List.length_take, List.length_drop, Array.length_toList, byteCells_length]
    omega
  · rw [h6]
    have : (byteCells l ++ byteCells m).length = (l ++ m).length := by simp [byteCells]
    rw [← this]
    simp only [byteCells, List.map_append]
    exact List.take_left

theorem Buf.fresh (w : World) (hbase : base ≤ w.heap.size) (l : List UInt8) (cap : Nat) (hl : l.length ≤ cap) (hm : cap ≤ maxLen) (C : Array Value) (hs : C.size = cap) (ht : C.toList.take l.length = byteCells l) :
    Buf (w.alloc (.cells C e)) base e w.heap.size cap l := ⟨hbase, hl, hm, C, (0, 0), heap_alloc_new w _, .inl rfl, hs, ht⟩

/-- append(b, s...), s a string. -/
theorem wpList_bufstr {ops : Array Oper} {rest : List Oper} {o : Oper} {a : Act} {Q : Exit → Act → World → Prop} (hgd : o.guard = none) (sl x : Operand)
    (ho : o.op = .call { callee := .builtin .append, args := #[sl, x], argTypes := #[t, u] })
    (E : Elem P t e 1 1) (hz : (P.info? e).map (·.zero) = some (some (.int .u8 0))) (hu : P.underlying u = some .string)
    (hs : a.eval sl = .slice (some ⟨g, 0, none⟩) l.length cap) (h : Buf w base e g cap l) (s : ByteArray) (hx : a.eval x = .string s)
    (hbytes : l.length + s.size ≤ 140737488355328) (hbase : base ≤ w.heap.size)
    (K : ∀ g' cap' w', Buf w' base e g' cap' (l ++ s.data.toList) → w.grownBy w' (some g) → wpList P ops Q rest (a.put o.dst (.slice (some ⟨g', 0, none⟩) (l.length + s.size) cap')) w') : wpList P ops Q (o :: rest) a w := by
  have hss : s.data.toList.length = s.size := by simp
  have hcells : strCells s = byteCells s.data.toList := rfl
  refine wpList_plain hgd fun K' hK => ?_
  have key : ∃ g' cap' w', (Builtin.append_ #[t, u] o.type #[.slice (some ⟨g, 0, none⟩) l.length cap, .string s]).run P w = .ok (.slice (some ⟨g', 0, none⟩) (l.length + s.size) cap') w' ∧ Buf w' base e g' cap' (l ++ s.data.toList) ∧ w.grownBy w' (some g) := by
    obtain ⟨ht, hsz, hb0, i, z, hi, hz0, hsize, hby, hzs⟩ := E
    have hzz : z = .int .u8 0 := by rw [hi] at hz; simp [hz0] at hz; exact hz
    subst hzz
    have hB := h
    obtain ⟨h1, h2, h3, cur, fz, hg, h4, h5, h6⟩ := h
    by_cases hroom : l.length + s.size ≤ cap
    · have hf := run_firstCells_string (P := P) w 1 s
      have hst := storeCells_free P g l.length e fz (strCells s) 0 cur w hg (by rw [h5]; exact h4) (by rw [strCells_length]; omega) (strCells_oneCell s)
      simp only [Nat.add_zero, strCells_length] at hst
      refine ⟨g, cap, w.setRow g (cur.toList.take l.length ++ strCells s ++ cur.toList.drop (l.length + s.size)).toArray, ?_, ?_, ⟨rfl, rfl, rfl, by simp, fun k _ hk => setRow_other w g k _ (fun e => hk (by simp [e]))⟩⟩
      · simp [Builtin.append_, run_underlying ht, run_underlying hu, sizeOf, typeInfo, hi, hsize, Builtin.lenOf, hroom, hf, Addr.add_lit, hst]
      · have := hB.roomed s.data.toList (by rw [hss]; exact hroom) hg
        rwa [hss] at this
    · have hr := run_append_grow_string (P := P) w t u o.type e i (.int .u8 0) ht hu hi hz0 ⟨g, 0, none⟩ l.length cap (byteCells l) (by rw [hsize, byteCells_length]; omega)
        (fun j v hv => by
          simp only [byteCells, List.getElem?_map, Option.map_eq_some_iff] at hv
          obtain ⟨x, hx, rfl⟩ := hv
          exact hB.cell j x hx) s (by omega) (by omega) (by rw [hby]; exact growslice_fits (by omega) (by omega))
      have hge := grownCap_ge w (l.length + s.size) cap e
      have hcm2 : grownCap w (l.length + s.size) cap e ≤ maxLen := grownCap_le_maxLen w (l.length + s.size) cap e (by simp only [maxLen]; omega)
      refine ⟨_, _, _, hr, Buf.fresh w.drew hbase _ _ (by simpa using hge) hcm2 _ ?_ ?_, ⟨rfl, rfl, rfl, by simp, fun k hk _ => Below.heap_alloc w.drew _ k hk⟩⟩
      · have hz1 : (Value.int IntKind.u8 0).cells.size = 1 := rfl
        simp only [Array.size_append, List.size_toArray, size_zeroCells, hz1, byteCells_length, strCells_length]
        omega
      · simp only [Array.toList_append, List.append_assoc, hcells]
        rw [← List.append_assoc]
        have : (byteCells l ++ byteCells s.data.toList).length = (l ++ s.data.toList).length := by simp [byteCells]
        rw [← this]
        simp only [byteCells, List.map_append]
        exact List.take_left
  obtain ⟨g', cap', w', hr, hb, hgr⟩ := key
  unfold Oper.wp execOp
  simp only [ho, resolve, invoke, builtin, Sem.run_bind, Sem.run_pure, Result.andThen_ok, List.map_toArray, List.map_cons, List.map_nil, hs, hx, hr]
  exact hK _ _ (K g' cap' w' hb hgr)

/-- append(b, c): the one-element slice has just been made. -/
theorem wpList_bufpush {ops : Array Oper} {rest : List Oper} {o : Oper} {a : Act} {Q : Exit → Act → World → Prop} (hgd : o.guard = none) (sl x : Operand)
    (ho : o.op = .call { callee := .builtin .append, args := #[sl, x], argTypes := #[t, t] })
    (E : Elem P t e 1 1) (hz : (P.info? e).map (·.zero) = some (some (.int .u8 0)))
    (hs : a.eval sl = .slice (some ⟨g, 0, none⟩) l.length cap) (h : Buf w base e g cap l) (c : UInt8) (hx : a.eval x = .slice (some ⟨w.heap.size, 0, none⟩) 1 1)
    (hbytes : l.length + 1 ≤ 140737488355328) (hbase : base ≤ w.heap.size)
    (K : ∀ g' cap' w', Buf w' base e g' cap' (l ++ [c]) → w.grownBy w' (some g) → wpList P ops Q rest (a.put o.dst (.slice (some ⟨g', 0, none⟩) (l.length + 1) cap')) w') : wpList P ops Q (o :: rest) a (w.alloc (.cells #[.int .u8 c.toNat] e)) := by
  refine wpList_plain hgd fun K' hK => ?_
  have key : ∃ g' cap' w', (Builtin.append_ #[t, t] o.type #[.slice (some ⟨g, 0, none⟩) l.length cap, .slice (some ⟨w.heap.size, 0, none⟩) 1 1]).run P (w.alloc (.cells #[.int .u8 c.toNat] e)) = .ok (.slice (some ⟨g', 0, none⟩) (l.length + 1) cap') w' ∧ Buf w' base e g' cap' (l ++ [c]) ∧ w.grownBy w' (some g) := by
    obtain ⟨ht, hsz, hb0, i, z, hi, hz0, hsize, hby, hzs⟩ := E
    have hzz : z = .int .u8 0 := by rw [hi] at hz; simp [hz0] at hz; exact hz
    subst hzz
    have hB : Buf (w.alloc (.cells #[.int .u8 c.toNat] e)) base e g cap l := h.kept (Below.heap_alloc w _ g h.lt)
    have hnews : ∀ j u, (byteCells [c])[j]? = some u → (w.alloc (.cells #[.int .u8 c.toNat] e)).cell? ((⟨w.heap.size, 0, none⟩ : Addr).add j) = some u := World.news_of_block (heap_alloc_new w _)
    have hgt : ∀ w', (w.alloc (.cells #[.int .u8 c.toNat] e)).grownBy w' (some g) → w.grownBy w' (some g) := fun w' h3 =>
      ⟨h3.os, h3.tape, h3.output, Nat.le_trans (by simp) h3.size, fun k hk hne => (h3.block k (by simp; omega) hne).trans (Below.heap_alloc w _ k hk)⟩
    have hBc := hB
    obtain ⟨h1, h2, h3, cur, fz, hg, h4, h5, h6⟩ := hB
    generalize hW : w.alloc (.cells #[.int .u8 c.toNat] e) = W at *
    have hWs : W.heap.size = w.heap.size + 1 := by rw [← hW]; simp
    by_cases hroom : l.length + 1 ≤ cap
    · have hf := run_firstCells_some (P := P) W 1 1 ⟨w.heap.size, 0, none⟩ 1 1 (byteCells [c]) rfl hnews
      have hst := storeCells_free P g l.length e fz (byteCells [c]) 0 cur W hg (by rw [h5]; exact h4) (by rw [byteCells_length]; simp; omega) (byteCells_one [c])
      simp only [Nat.add_zero, byteCells_length, List.length_singleton] at hst
      refine ⟨g, cap, W.setRow g (cur.toList.take l.length ++ byteCells [c] ++ cur.toList.drop (l.length + 1)).toArray, ?_, ?_, hgt _ ⟨rfl, rfl, rfl, by simp, fun k _ hk => setRow_other W g k _ (fun e => hk (by simp [e]))⟩⟩
      · simp [Builtin.append_, run_underlying ht, sizeOf, typeInfo, hi, hsize, Builtin.lenOf, hroom, hf, Addr.add_lit, hst]
      · exact hBc.roomed [c] hroom hg
    · have hr := run_append_grow (P := P) W t o.type e i (.int .u8 0) ht hi hz0 ⟨g, 0, none⟩ l.length cap (byteCells l) (by rw [hsize, byteCells_length]; omega)
        (fun j v hv => by
          simp only [byteCells, List.getElem?_map, Option.map_eq_some_iff] at hv
          obtain ⟨x, hx, rfl⟩ := hv
          exact hBc.cell j x hx) ⟨w.heap.size, 0, none⟩ 1 1 (byteCells [c]) (by rw [hsize]; rfl) hnews (by omega) (by omega) (by rw [hby]; exact growslice_fits (by omega) (by omega))
      have hge := grownCap_ge W (l.length + 1) cap e
      have hcm2 : grownCap W (l.length + 1) cap e ≤ maxLen := grownCap_le_maxLen W (l.length + 1) cap e (by simp only [maxLen]; omega)
      refine ⟨_, _, _, hr, Buf.fresh W.drew (by show base ≤ W.heap.size; omega) _ _ (by simpa using hge) hcm2 _ ?_ ?_, hgt _ ⟨rfl, rfl, rfl, by simp, fun k hk _ => Below.heap_alloc W.drew _ k hk⟩⟩
      · have hz1 : (Value.int IntKind.u8 0).cells.size = 1 := rfl
        simp only [Array.size_append, List.size_toArray, size_zeroCells, hz1, byteCells_length, List.length_singleton]
        omega
      · simp only [Array.toList_append, List.append_assoc]
        rw [← List.append_assoc]
        have : (byteCells l ++ byteCells [c]).length = (l ++ [c]).length := by simp [byteCells]
        rw [← this]
        simp only [byteCells, List.map_append]
        exact List.take_left
  obtain ⟨g', cap', w', hr, hb, hgr⟩ := key
  unfold Oper.wp execOp
  simp only [ho, resolve, invoke, builtin, Sem.run_bind, Sem.run_pure, Result.andThen_ok, List.map_toArray, List.map_cons, List.map_nil, hs, hx, hr]
  exact hK _ _ (K g' cap' w' hb hgr)

/-- []byte(s). -/
theorem buf_convert (w : World) (e : TypeId) (s : ByteArray) (hs : s.size ≤ 140737488355328) : Buf (bytesWorld w e s) w.heap.size e w.heap.size (grownCap w s.size 0 e) s.data.toList := by
  have hge := grownCap_ge w s.size 0 e
  have hsz : (bytesCells w e s).size = grownCap w s.size 0 e := by
    simp only [bytesCells, Array.size_append, Array.size_map, Array.size_replicate]
    show s.size + _ = _
    omega
  refine ⟨Nat.le_refl _, by simpa using hge, grownCap_le_maxLen w s.size 0 e (by simp only [maxLen]; omega), _, _, bytesWorld_at_new w e s, .inr (by rw [hsz]; exact Nat.le_refl _), hsz, ?_⟩
  simp only [bytesCells, Array.toList_append, Array.toList_map]
  have : s.data.toList.length = (byteCells s.data.toList).length := (byteCells_length _).symm
  rw [this]
  exact List.take_left

theorem below_convert (w : World) (e : TypeId) (s : ByteArray) : Below w.heap.size w (bytesWorld w e s) :=
  ⟨rfl, rfl, rfl, by rw [bytesWorld_size]; omega, fun k hk => bytesWorld_at_old w e s k hk⟩
end
end Go.Proofs.Ytgkhnccedejjnaa
