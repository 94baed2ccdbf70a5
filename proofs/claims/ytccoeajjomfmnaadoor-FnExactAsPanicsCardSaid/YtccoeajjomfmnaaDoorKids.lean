/-
  Small facts on the kids of a node and on its error's value.
  Conditions: none.
-/
import Derived.Test.YtccoeajjomfmnaaDoorMeth
namespace Go.Proofs.YtccoeajjomfmnaaDoor
open Go.RowKit Go.Lib

theorem kidsOf_single {ns : List Nd} {i : Nat} {nd : Nd} {k : K8} (hn : ns[i]? = some nd) (hk : kindOf nd.kind = some k) (h1 : k = .wrap ∨ k = .alike ∨ k = .acts) : kidsOf ns i = [] ∨ ∃ j, kidsOf ns i = [j] ∧ isThere ns j = true ∧ i < j := by
  have key : ∀ o : Option Nat, o.toList = [] ∨ ∃ j, o.toList = [j] := fun o => by cases o; exact .inl rfl; exact .inr ⟨_, rfl⟩
  have e : kidsOf ns i = (nd.kids.head?.bind (liveKid ns i)).toList := by
    unfold kidsOf
    rw [hn]
    simp only [hk]
    rcases h1 with rfl | rfl | rfl <;> rfl
  rcases key (nd.kids.head?.bind (liveKid ns i)) with h | ⟨j, h⟩
  · exact .inl (by rw [e, h])
  · refine .inr ⟨j, by rw [e, h], ?_⟩
    have := kidsOf_mem (ns := ns) (i := i) (j := j) (by rw [e, h]; simp)
    exact ⟨this.2.2, this.1⟩
theorem kidsOf_none {ns : List Nd} {i : Nat} {nd : Nd} {k : K8} (hn : ns[i]? = some nd) (hk : kindOf nd.kind = some k) (h1 : k = .text ∨ k = .value ∨ k = .list) : kidsOf ns i = [] := by
  unfold kidsOf
  rw [hn]
  simp only [hk]
  rcases h1 with rfl | rfl | rfl <;> rfl
theorem isKind_of {ns : List Nd} {i : Nat} {nd : Nd} {k : K8} (hn : ns[i]? = some nd) (hk : kindOf nd.kind = some k) (q : K8) : isKind ns q.word i = decide (k = q) := by
  unfold isKind
  rw [hn]
  simp only [word_of_kind hk]
  cases k <;> cases q <;> decide
theorem kidVal_nil {ns : List Nd} {adr : Nat → Nat} {sl : Nat → Value} {i : Nat} (h : kidsOf ns i = []) : kidVal ns adr sl i = .nilIface := by unfold kidVal; rw [h]; rfl
theorem kidVal_one {ns : List Nd} {adr : Nat → Nat} {sl : Nat → Value} {i j : Nat} (h : kidsOf ns i = [j]) : kidVal ns adr sl i = valOf ns adr sl j := by unfold kidVal; rw [h]; rfl
theorem valOf_iface {ns : List Nd} {adr : Nat → Nat} {sl : Nat → Value} {j : Nat} (h : isThere ns j = true) : ∃ t u, valOf ns adr sl j = .iface t u := by
  obtain ⟨nd, k, hn, hk⟩ := isThere_kind h
  rw [valOf_there h hn hk]
  exact errBy_iface _ _ _ _ _

theorem atIx_val (ns : List Nd) (adr : Nat → Nat) (sl : Nat → Value) (i : Int) (hi : 0 ≤ i) : atIx ((List.range ns.length).map (valOf ns adr sl)) i = valOf ns adr sl i.toNat := by
  unfold atIx
  rw [if_pos hi, List.getD_eq_getElem?_getD]
  by_cases h : i.toNat < ns.length
  · simp [h]
  · rw [List.getElem?_eq_none (by simp; omega), valOf_not (isThere_none ns _ (by omega))]
    rfl
theorem atIx_neg (xs : List Value) (i : Int) (hi : i < 0) : atIx xs i = .nilIface := by
  unfold atIx
  rw [if_neg (by omega)]
theorem rootTree_there {ns : List Nd} (h : isThere ns 0 = true) : rootTree ns = treeOf ns 0 := by unfold rootTree; rw [if_pos h]
theorem rootTree_not {ns : List Nd} (h : isThere ns 0 = false) : rootTree ns = [] := by unfold rootTree; rw [if_neg (by rw [h]; simp)]

end Go.Proofs.YtccoeajjomfmnaaDoor
