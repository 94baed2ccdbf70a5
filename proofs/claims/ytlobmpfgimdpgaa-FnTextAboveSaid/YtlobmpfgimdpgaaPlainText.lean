/-
  Texts of errors above and beside others: plain mathematics, no program.
  Conditions: none.
-/
import Derived.Test.YtlobmpfgimdpgaaTextOf
import Derived.Test.YtlobmpfgimdpgaaTexts
import Derived.Test.YtlobmpfgimdpgaaFew
namespace Go.Proofs.Ytlobmpfgimdpgaa

theorem map_congr_mem {α β : Type} {f g : α → β} {l : List α} (h : ∀ x ∈ l, f x = g x) : l.map f = l.map g := List.map_congr_left h

theorem Emb.text {ns ms : List Nd} {d : Nat} (E : Emb ns ms d) : ∀ (m i : Nat), i < ns.length → ns.length - i ≤ m → textOf ms (i + d) = textOf ns i := by
  intro m
  induction m with
  | zero => intro i hi hm; omega
  | succ m ih =>
    intro i hi hm
    have hn : ns[i]? = some ns[i] := List.getElem?_eq_getElem hi
    have hk : (kidsOf ms (i + d)).map (textOf ms) = (kidsOf ns i).map (textOf ns) := by
      rw [E.kids hi, List.map_map]
      refine map_congr_mem fun j hj => ?_
      have := kidsOf_mem hj
      exact ih j this.2.1 (by omega)
    rw [textOf_eq ns i _ hn, textOf_eq ms (i + d) _ (E.get i _ hn), hk]

theorem text_wrap {ns : List Nd} (h : Cutted ns) (hl : ns.length ≤ 1048576) : rootText (aboveN kWrap ns []) = kAbove ∧ isThere (aboveN kWrap ns []) 0 = true := by
  have hr := above_root h hl .wrap (by simp)
  simp only [K8.word] at hr
  have ht : isThere (aboveN kWrap ns []) 0 = true := by rw [hr.1]; simp
  refine ⟨?_, ht⟩
  unfold rootText
  rw [ht, if_pos rfl, textOf_eq _ 0 ⟨kWrap, 9, kAbove, [1]⟩ rfl]
  have : kindOf kWrap = some .wrap := by decide
  simp only [this]

theorem lines_one (s : ByteArray) : (⟨(lines [s]).toArray⟩ : ByteArray) = s := by simp [lines, tailLines]

theorem text_join {ns : List Nd} (h : Cutted ns) (hl : ns.length ≤ 1048576) : rootText (aboveN kJoin ns []) = rootText ns ∧ isThere (aboveN kJoin ns []) 0 = isThere ns 0 := by
  have hr := above_root h hl .join (by simp)
  simp only [K8.word] at hr
  have ht : isThere (aboveN kJoin ns []) 0 = isThere ns 0 := by rw [hr.1]; simp
  refine ⟨?_, ht⟩
  unfold rootText
  rw [ht]
  cases hT : isThere ns 0 with
  | false => rfl
  | true =>
    have E := emb_above h hl kJoin []
    have he := E.text _ 0 (isThere_lt hT) (Nat.le_refl _)
    have hj : kindOf kJoin = some .join := by decide
    have hk := hr.2.1
    rw [hT] at hk
    rw [if_pos rfl, if_pos rfl, textOf_eq _ 0 ⟨kJoin, 9, kAbove, [1]⟩ rfl]
    simp only [hj]
    rw [hk]
    simp only [if_true, List.map_cons, List.map_nil]
    rw [lines_one, ← he]

theorem text_beside {a b : List Nd} (ha : Cutted a) (hb : Cutted b) (hla : a.length ≤ 1048576) (hlb : b.length ≤ 1048576) :
    rootText (besideN a b) = ⟨(lines (kept [rootText a, rootText b] [!isThere a 0, !isThere b 0])).toArray⟩ ∧ isThere (besideN a b) 0 = !(kept [rootText a, rootText b] [!isThere a 0, !isThere b 0]).isEmpty := by
  have EL := emb_left (b := b) ha hla
  have ER := emb_right ha hb hlb
  obtain ⟨hk, ht⟩ := beside_kids ha hb hla hlb
  have hn : (besideN a b)[0]? = some ⟨kJoin, 9, kAbove, if a.length = 0 then [0, 1] else [1, 1 + (a.length : Int)]⟩ := by rw [beside_eq ha]; rfl
  have hj : kindOf kJoin = some .join := by decide
  have hte := textOf_eq _ 0 _ hn
  simp only [hj] at hte
  rw [hk] at hte
  have h1 : isThere a 0 = true → textOf (besideN a b) 1 = textOf a 0 := fun h => by
    have := EL.text _ 0 (isThere_lt h) (Nat.le_refl _)
    rwa [Nat.zero_add] at this
  have h2 : isThere b 0 = true → textOf (besideN a b) (1 + a.length) = textOf b 0 := fun h => by
    have := ER.text _ 0 (isThere_lt h) (Nat.le_refl _)
    rwa [Nat.zero_add] at this
  unfold rootText
  rw [ht]
  cases hA : isThere a 0 <;> cases hB : isThere b 0
  · exact ⟨rfl, rfl⟩
  · rw [hA, hB] at hte
    simp only [Bool.false_eq_true, if_false, if_true, List.nil_append, List.map_cons, List.map_nil, h2 hB] at hte
    exact ⟨hte, rfl⟩
  · rw [hA, hB] at hte
    simp only [Bool.false_eq_true, if_false, if_true, List.append_nil, List.map_cons, List.map_nil, h1 hA] at hte
    exact ⟨hte, rfl⟩
  · rw [hA, hB] at hte
    simp only [if_true, List.cons_append, List.nil_append, List.map_cons, List.map_nil, h1 hA, h2 hB] at hte
    exact ⟨hte, rfl⟩

/-- Nodes with short texts. -/
def Short (ns : List Nd) : Prop := ∀ nd ∈ ns, nd.text.size ≤ 5
theorem Short.drawn {ns : List Nd} (h : Drawn8 ns) : Short ns := fun nd hnd => by have := h.text nd hnd; omega
theorem Short.cut {ns : List Nd} (h : Short ns) : Short (cutN ns) := fun nd hnd => by
  obtain ⟨x, hx, rfl⟩ := List.mem_map.1 hnd
  exact h x hx
theorem Short.up {ns : List Nd} (h : Short ns) (d : Int) : Short (ns.map (upNd d)) := fun nd hnd => by
  obtain ⟨x, hx, rfl⟩ := List.mem_map.1 hnd
  exact h x hx
theorem Short.above {ns : List Nd} (h : Short ns) (kind : ByteArray) : Short (aboveN kind ns []) := fun nd hnd => by
  rcases List.mem_cons.1 hnd with rfl | hnd
  · exact (show kAbove.size ≤ 5 by decide)
  · exact h.up 1 nd hnd
theorem Short.beside {a b : List Nd} (ha : Short a) (hb : Short b) (hc : Cutted a) : Short (besideN a b) := fun nd hnd => by
  rw [beside_eq hc] at hnd
  rcases List.mem_append.1 hnd with hnd | hnd
  · rw [List.mem_singleton] at hnd
    subst hnd
    exact (show kAbove.size ≤ 5 by decide)
  · rcases List.mem_append.1 hnd with hnd | hnd
    · exact ha.up _ nd hnd
    · exact hb.up _ nd hnd
theorem Short.size {ns : List Nd} (h : Short ns) (hf : Fewer 17 3 ns) (j : Nat) (hj : j < ns.length) : (textOf ns j).size ≤ 1099511627776 := by
  have h1 := textOf_size ns 5 (Nat.le_refl _) h ns.length j hj (by omega)
  have h2 := treeLen_le ns 3 hf.2 17 j hj (by have := hf.1; omega)
  have h3 : (3 + 1) ^ 17 = 17179869184 := by decide
  rw [h3] at h2
  have h4 : (5 + 1) * treeLen ns j ≤ (5 + 1) * 17179869184 := Nat.mul_le_mul_left _ h2
  omega
theorem Fewer.mono {n k n' : Nat} {ns : List Nd} (h : Fewer n k ns) (hn : n ≤ n') : Fewer n' k ns := ⟨Nat.le_trans h.1 hn, h.2⟩
end Go.Proofs.Ytlobmpfgimdpgaa
