/-
  The contract of the reference's Made: the forest of nodes.
  Conditions: at most 2^36 nodes, and at most 2^36 kids of each.
-/
import Derived.Test.YtccoeajjomfmnaaDoorSpec
import Derived.RegionTactic
import Derived.BigRegion
import Derived.Deep.RegionWith
import Derived.Deep.CutRange
import Derived.Deep.DeepCutAuto
import Derived.Outline
namespace Go.Proofs.YtccoeajjomfmnaaDoor
open Go.RowKit Go.Lib

theorem elemBools : Elem Tryd.prog 34 4 1 1 := Elem.mk Tryd.underlying34 (z := .bool false) (by kernel_rfl) rfl (by decide) (by decide)
theorem zeroBool : (Tryd.prog.info? 4).map (·.zero) = some (some (.bool false)) := by kernel_rfl
theorem elemInts : Elem Tryd.prog 45 3 1 8 := Elem.mk Tryd.underlying45 (z := .int .i64 0) (by kernel_rfl) rfl (by decide) (by decide)
theorem elemRows : Elem Tryd.prog 35 45 1 24 := Elem.mk Tryd.underlying35 (z := .slice none 0 0) (by kernel_rfl) rfl (by decide) (by decide)
theorem zeroRow : (Tryd.prog.info? 45).map (·.zero) = some (some (.slice none 0 0)) := by kernel_rfl

/-- The kids of a node by its word. -/
def specKids (ns : List Nd) (i : Nat) (s : ByteArray) (kids : List Int) : List Nat :=
  match kindOf s with
  | none => []
  | some k => kidsBy ns i k kids
theorem kidsOf_spec {ns : List Nd} {i : Nat} {nd : Nd} (h : ns[i]? = some nd) : kidsOf ns i = specKids ns i nd.kind nd.kids := by
  unfold kidsOf specKids
  simp only [h]
  cases kindOf nd.kind <;> rfl

/-- The truths of a forest while the nodes below m are still to come. -/
def isTo (ns : List Nd) (m : Nat) : List Bool := (List.range ns.length).map fun j => if j < m then false else isThere ns j
theorem isTo_length (ns : List Nd) (m : Nat) : (isTo ns m).length = ns.length := by simp [isTo]
theorem isTo_get {ns : List Nd} {m j : Nat} (h : j < ns.length) : (isTo ns m)[j]? = some (if j < m then false else isThere ns j) := by simp [isTo, h]
theorem isTo_none (ns : List Nd) : isTo ns ns.length = List.replicate ns.length false := by
  apply List.ext_getElem?
  intro j
  by_cases hj : j < ns.length
  · rw [isTo_get hj, if_pos hj]; simp [hj]
  · rw [List.getElem?_eq_none (by rw [isTo_length]; omega), List.getElem?_eq_none (by simp; omega)]
theorem isTo_all (ns : List Nd) : isTo ns 0 = (List.range ns.length).map (isThere ns) := by simp [isTo]
theorem isTo_step {ns : List Nd} {m : Nat} (h : m < ns.length) : isTo ns m = (isTo ns (m + 1)).set m (isThere ns m) := by
  apply List.ext_getElem?
  intro j
  by_cases hj : j < ns.length
  · rw [isTo_get hj, List.getElem?_set]
    by_cases hjm : m = j
    · subst hjm
      simp [isTo_length, h]
    · rw [if_neg hjm, isTo_get hj]
      congr 1
      by_cases h1 : j < m
      · rw [if_pos h1, if_pos (by omega)]
      · rw [if_neg h1, if_neg (by omega)]
  · rw [List.getElem?_eq_none (by rw [isTo_length]; omega), List.getElem?_eq_none (by rw [List.length_set, isTo_length]; omega)]
theorem hasAt_isTo (ns : List Nd) (m : Nat) (k : Int) (h : (m : Int) < k) : hasAt (isTo ns (m + 1)) k = (liveKid ns m k).isSome := by
  unfold hasAt liveKid
  rw [isTo_length]
  by_cases h1 : k < (ns.length : Int)
  · have hok : okKid ns.length m k = true := decide_eq_true ⟨h, h1⟩
    rw [decide_eq_true ⟨by omega, h1⟩, hok, Bool.true_and, Bool.true_and, List.getD_eq_getElem?_getD, isTo_get (by omega), Option.getD_some, if_neg (by omega)]
    cases isThere ns k.toNat <;> rfl
  · have hok : okKid ns.length m k = false := decide_eq_false (fun h => h1 h.2)
    rw [decide_eq_false (fun h => h1 h.2), hok]
    rfl

/-- The slices of kids while the nodes below m are still to come. -/
def rowsTo (n m : Nat) (ks : Nat → Value) : List Value := (List.range n).map fun j => if j < m then .slice none 0 0 else ks j
theorem rowsTo_length (n m : Nat) (ks : Nat → Value) : (rowsTo n m ks).length = n := by simp [rowsTo]
theorem rowsTo_get {n m j : Nat} {ks : Nat → Value} (h : j < n) : (rowsTo n m ks)[j]? = some (if j < m then .slice none 0 0 else ks j) := by simp [rowsTo, h]
theorem rowsTo_none (n : Nat) (ks : Nat → Value) : rowsTo n n ks = List.replicate n (.slice none 0 0) := by
  apply List.ext_getElem?
  intro j
  by_cases hj : j < n
  · rw [rowsTo_get hj, if_pos hj]; simp [hj]
  · rw [List.getElem?_eq_none (by rw [rowsTo_length]; omega), List.getElem?_eq_none (by simp; omega)]
theorem rowsTo_step {n m : Nat} {ks : Nat → Value} {v : Value} (h : m < n) : rowsTo n m (fun j => if j = m then v else ks j) = (rowsTo n (m + 1) ks).set m v := by
  apply List.ext_getElem?
  intro j
  by_cases hj : j < n
  · rw [rowsTo_get hj, List.getElem?_set]
    by_cases hjm : m = j
    · subst hjm
      simp [rowsTo_length, h]
    · rw [if_neg hjm, rowsTo_get hj]
      congr 1
      by_cases h1 : j < m
      · rw [if_pos h1, if_pos (by omega)]
      · rw [if_neg h1, if_neg (show ¬ j = m from fun e => hjm e.symm), if_neg (show ¬ j < m + 1 by omega)]
  · rw [List.getElem?_eq_none (by rw [rowsTo_length]; omega), List.getElem?_eq_none (by rw [List.length_set, rowsTo_length]; omega)]

/-- Indices as ints. -/
def asInts (l : List Nat) : List Value := l.map fun j : Nat => Value.int .i64 (j : Int)

/-- A forest of which the nodes from m on are made. -/
structure FTo (w : World) (nv : Value) (ns : List Nd) (m : Nat) (wr : World) (gf gi gk : Nat) (ks : Nat → Value) : Prop where
  bel : Below w.heap.size w wr
  res : wr.heap[w.heap.size]? = some (.cells #[.slice none 0 0, .slice none 0 0, .slice none 0 0] 37 (0, 0))
  ne : w.heap.size < gf
  blk : wr.heap[gf]? = some (.cells #[nv, .slice (some ⟨gi, 0, none⟩) ns.length ns.length, .slice (some ⟨gk, 0, none⟩) ns.length ns.length] 37 (0, 0))
  rowI : wr.ownsRow w.heap.size 4 1 (.slice (some ⟨gi, 0, none⟩) ns.length ns.length) ns.length ((isTo ns m).map .bool)
  rowK : wr.ownsRow w.heap.size 45 1 (.slice (some ⟨gk, 0, none⟩) ns.length ns.length) ns.length (rowsTo ns.length m ks)
  kids : ∀ j, m ≤ j → j < ns.length → wr.ownsRow w.heap.size 3 1 (ks j) (kidsOf ns j).length (asInts (kidsOf ns j))

theorem FTo.keep {w wr w' : World} {nv : Value} {ns : List Nd} {m gf gi gk : Nat} {ks : Nat → Value} (h : FTo w nv ns m wr gf gi gk ks) (hb : Below wr.heap.size wr w') : FTo w nv ns m w' gf gi gk ks :=
  ⟨h.bel.trans (hb.mono h.bel.size), (hb.block _ (lt_of_heap h.res)).trans h.res, h.ne, (hb.block _ (lt_of_heap h.blk)).trans h.blk, own_below h.rowI hb, own_below h.rowK hb, fun j h1 h2 => own_below (h.kids j h1 h2) hb⟩

/-- One node more: its kids and its truth are stored. -/
theorem FTo.step {w wr w' : World} {nv kv : Value} {ns : List Nd} {m gf gi gk : Nat} {ks : Nat → Value} (h : FTo w nv ns (m + 1) wr gf gi gk ks) (hm : m < ns.length) (hb : Below wr.heap.size wr w')
    (hk : w'.ownsRow wr.heap.size 3 1 kv (kidsOf ns m).length (asInts (kidsOf ns m))) :
    FTo w nv ns m ((w'.setCell ⟨gk, m, none⟩ kv).setCell ⟨gi, m, none⟩ (.bool (isThere ns m))) gf gi gk (fun j => if j = m then kv else ks j) := by
  have h' := h.keep hb
  have hs1 := h'.rowK.stored m kv
  have hI1 := h'.rowI.kept hs1.2 (own_own_ne h'.rowI h'.rowK (by decide))
  have hs2 := hI1.stored m (.bool (isThere ns m))
  have hgk := (h'.rowK.lt gk rfl).1
  have hgi := (h'.rowI.lt gi rfl).1
  have hK2 := hs1.1.kept hs2.2 (own_own_ne hs1.1 hI1 (by decide))
  have ne1 : gf ≠ gk := fun e => own_ne h'.rowK (e ▸ h'.blk) (by decide) rfl
  have ne2 : gf ≠ gi := fun e => own_ne h'.rowI (e ▸ h'.blk) (by decide) rfl
  have ne3 : w.heap.size ≠ gk := fun e => own_ne h'.rowK (e ▸ h'.res) (by decide) rfl
  have ne4 : w.heap.size ≠ gi := fun e => own_ne h'.rowI (e ▸ h'.res) (by decide) rfl
  have carry : ∀ v n xs, w'.ownsRow w.heap.size 3 1 v n xs → ((w'.setCell ⟨gk, m, none⟩ kv).setCell ⟨gi, m, none⟩ (.bool (isThere ns m))).ownsRow w.heap.size 3 1 v n xs := fun v n xs hv => by
    have h1 := hv.kept hs1.2 (own_own_ne hv h'.rowK (by decide))
    exact h1.kept hs2.2 (own_own_ne h1 hI1 (by decide))
  refine ⟨(h'.bel.setCell (p := ⟨gk, m, none⟩) hgk _).setCell (p := ⟨gi, m, none⟩) hgi _, ?_, h.ne, ?_, ?_, ?_, ?_⟩
  · rw [Below.heap_setCell _ _ _ _ ne4, Below.heap_setCell _ _ _ _ ne3]; exact h'.res
  · rw [Below.heap_setCell _ _ _ _ ne2, Below.heap_setCell _ _ _ _ ne1]; exact h'.blk
  · rw [isTo_step hm, List.map_set]; exact hs2.1
  · rw [rowsTo_step hm]; exact hK2
  · intro j h1 h2
    by_cases hj : j = m
    · subst hj
      simp only [if_true]
      exact carry _ _ _ (World.ownsRow.mono_base hk h.bel.size)
    · simp only [if_neg hj]
      exact carry _ _ _ (h'.kids j (by omega) h2)
end Go.Proofs.YtccoeajjomfmnaaDoor
