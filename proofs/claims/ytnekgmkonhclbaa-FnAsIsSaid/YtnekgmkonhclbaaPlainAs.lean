/-
  What errors.AsType finds in nodes with one more above them, and in the nodes of a join of two. Plain mathematics, no program.
  Conditions: none.
-/
import Derived.Test.YtnekgmkonhclbaaPlain2
import Derived.Test.YtnekgmkonhclbaaFew
import Derived.Test.YtnekgmkonhclbaaSpecAs
namespace Go.Proofs.Ytnekgmkonhclbaa

theorem key_root {ns : List Nd} {nd : Nd} (h : ns[0]? = some nd) (hk : nd.kind = kActs) : asKey ns = some nd.key := by
  have ht : isThere ns 0 = true := by
    rw [isThere_eq ns 0 nd h, hk]
    rfl
  unfold asKey rootTree
  rw [if_pos ht, treeOf_eq ns 0 (lt_of_get h), List.findSome?_cons]
  have : valKey ns 0 = some nd.key := by
    unfold valKey
    rw [h]
    simp [hk]
  rw [this]
theorem ix_root {ns : List Nd} {nd : Nd} (h : ns[0]? = some nd) (hk : nd.kind = kWrap) : asIx ns kWrap = some 0 := by
  have ht : isThere ns 0 = true := by
    rw [isThere_eq ns 0 nd h, hk]
    rfl
  unfold asIx rootTree
  rw [if_pos ht, treeOf_eq ns 0 (lt_of_get h), List.find?_cons]
  have : isKind ns kWrap 0 = true := by
    unfold isKind
    rw [h]
    simp [hk]
  rw [this]
theorem key_above_acts (ns : List Nd) : asKey (aboveN kActs ns []) = some 9 := key_root (nd := ⟨kActs, 9, kAbove, [1]⟩) rfl rfl
theorem ix_above_wrap (ns : List Nd) : asIx (aboveN kWrap ns []) kWrap = some 0 := ix_root (nd := ⟨kWrap, 9, kAbove, [1]⟩) rfl rfl

theorem key_above {ns : List Nd} (h : Cutted ns) (hl : ns.length ≤ 1048576) (k : K8) (hk : k = .wrap ∨ k = .many ∨ k = .join ∨ k = .alike) : asKey (aboveN k.word ns []) = asKey ns := by
  unfold asKey
  rw [(above_root h hl k (by rcases hk with h | h | h | h <;> simp [h])).2.2]
  have hh : valKey (aboveN k.word ns []) 0 = none := by
    show (if k.word = kValue ∨ k.word = kActs then some (9 : Int) else none) = none
    rw [if_neg (by rcases hk with rfl | rfl | rfl | rfl <;> decide)]
  split
  · rw [List.findSome?_cons, hh]
    exact some_emb (emb_above h hl _ _) _ (root_lt ns)
  · rename_i hc
    have ht : isThere ns 0 = false := by
      cases ht : isThere ns 0 with
      | false => rfl
      | true => rw [ht] at hc; simp at hc
    unfold rootTree
    rw [ht]
    rfl

theorem key_beside {a b : List Nd} (ha : Cutted a) (hb : Cutted b) (hla : a.length ≤ 1048576) (hlb : b.length ≤ 1048576) : asKey (besideN a b) = (asKey a).or (asKey b) := by
  unfold asKey
  rw [beside_root ha hb hla hlb]
  have h0 : valKey (besideN a b) 0 = none := by
    unfold valKey
    rw [beside_eq ha]
    rfl
  split
  · rw [List.findSome?_cons, h0]
    show List.findSome? _ (_ ++ _) = _
    rw [List.findSome?_append, some_emb (emb_left ha hla) _ (root_lt a), some_emb (emb_right ha hb hlb) _ (root_lt b)]
  · rename_i hc
    have h1 : isThere a 0 = false := by cases h : isThere a 0 with | false => rfl | true => rw [h] at hc; simp at hc
    have h2 : isThere b 0 = false := by cases h : isThere b 0 with | false => rfl | true => rw [h] at hc; simp at hc
    rw [rootTree_none h1, rootTree_none h2]
    rfl
theorem key_beside_acts {a b : List Nd} (hb : Cutted b) (hla : a.length ≤ 1048575) (hlb : b.length ≤ 1048576) : asKey (besideN (aboveN kActs a []) b) = some 9 := by
  rw [beside_cut, key_beside (cutN_cutted _) hb (by rw [cutN_length]; simp [aboveN]; omega) hlb]
  have hn : (cutN (aboveN kActs a []))[0]? = some (cutNd (aboveN kActs a []).length ⟨kActs, 9, kAbove, [1]⟩) := rfl
  rw [key_root hn rfl]
  rfl

/-- Where no node acts as a value, the value that is found is one of the tree. -/
theorem key_is {ns : List Nd} {key : Int} (hno : ∀ nd ∈ ns, nd.kind ≠ kActs) (h : asKey ns = some key) : (rootTree ns).any (hitVal ns key) = true := by
  unfold asKey at h
  obtain ⟨i, hi, hx⟩ := List.exists_of_findSome?_eq_some h
  refine List.any_eq_true.2 ⟨i, hi, ?_⟩
  unfold valKey at hx
  unfold hitVal
  cases hn : ns[i]? with
  | none => rw [hn] at hx; cases hx
  | some nd =>
    rw [hn] at hx
    simp only at hx ⊢
    split at hx
    · rename_i hc
      injection hx with hx
      rcases hc with hc | hc
      · simp [hc, hx]
      · exact absurd hc (hno nd (List.mem_of_getElem? hn))
    · cases hx
end Go.Proofs.Ytnekgmkonhclbaa
