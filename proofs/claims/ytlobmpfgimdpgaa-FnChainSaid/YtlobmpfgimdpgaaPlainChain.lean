/-
  Chains of errors above others: plain mathematics, no program.
  Conditions: none.
-/
import Derived.Test.YtlobmpfgimdpgaaUnwrap
import Derived.Test.YtlobmpfgimdpgaaFew
namespace Go.Proofs.Ytlobmpfgimdpgaa

theorem Emb.isKind {ns ms : List Nd} {d : Nat} (E : Emb ns ms d) {i : Nat} (hi : i < ns.length) (s : ByteArray) : isKind ms s (i + d) = isKind ns s i := by
  have hn : ns[i]? = some ns[i] := List.getElem?_eq_getElem hi
  unfold Go.Proofs.Ytlobmpfgimdpgaa.isKind
  rw [hn, E.get i _ hn]
theorem Emb.unwrap {ns ms : List Nd} {d : Nat} (E : Emb ns ms d) {i : Nat} (hi : i < ns.length) : unwrapOf ms (i + d) = (unwrapOf ns i).map (· + d) := by
  unfold unwrapOf
  rw [E.there _ i hi (Nat.le_refl _), E.isKind hi, E.isKind hi, E.kids hi]
  split
  · simp
  · rfl
theorem Emb.chain {ns ms : List Nd} {d : Nat} (E : Emb ns ms d) : ∀ (m i : Nat), i < ns.length → ns.length - i ≤ m → chainOf ms (i + d) = (chainOf ns i).map (· + d) := by
  intro m
  induction m with
  | zero => intro i hi hm; omega
  | succ m ih =>
    intro i hi hm
    have hl := E.len
    rw [chainOf_eq ns i hi, chainOf_eq ms (i + d) (by omega), E.unwrap hi, List.map_cons]
    congr 1
    cases hu : unwrapOf ns i with
    | none => rfl
    | some j =>
      have := unwrapOf_lt hu
      exact ih j this.2.1 (by omega)

theorem chain_above {ns : List Nd} (h : Cutted ns) (hl : ns.length ≤ 1048576) : rootChain (aboveN kWrap ns []) = 0 :: (rootChain ns).map (· + 1) := by
  have hr := above_root h hl .wrap (by simp)
  simp only [K8.word] at hr
  have ht : isThere (aboveN kWrap ns []) 0 = true := by rw [hr.1]; simp
  have E := emb_above h hl kWrap []
  unfold rootChain
  rw [if_pos ht, chainOf_eq _ 0 (isThere_lt ht)]
  congr 1
  have hk1 : isKind (aboveN kWrap ns []) kMany 0 = false := by simp [isKind, aboveN]; decide
  have hk2 : isKind (aboveN kWrap ns []) kJoin 0 = false := by simp [isKind, aboveN]; decide
  have hu : unwrapOf (aboveN kWrap ns []) 0 = if isThere ns 0 then some 1 else none := by
    unfold unwrapOf
    rw [ht, hk1, hk2, hr.2.1]
    cases isThere ns 0 <;> rfl
  rw [hu]
  cases hT : isThere ns 0 with
  | false => rfl
  | true =>
    have := E.chain _ 0 (isThere_lt hT) (Nat.le_refl _)
    simpa using this

theorem least_zero (ns : List Nd) : leastOf (aboveN kWrap ns []) 0 = 0 := by
  unfold leastOf
  have : (aboveN kWrap ns [])[0]? = some ⟨kWrap, 9, kAbove, [1]⟩ := rfl
  rw [this]
  simp only
  rw [if_neg (by decide)]

theorem least_above {ns : List Nd} (h : Cutted ns) (hl : ns.length ≤ 1048576) {j : Nat} (hj : j < ns.length) : leastOf (aboveN kWrap ns []) (j + 1) = leastOf ns j + 1 := by
  have E := emb_above h hl kWrap []
  have hn : ns[j]? = some ns[j] := List.getElem?_eq_getElem hj
  have hm := E.get j _ hn
  have h0 : (aboveN kWrap ns [])[0]? = some ⟨kWrap, 9, kAbove, [1]⟩ := rfl
  have hlen : (aboveN kWrap ns []).length = ns.length + 1 := by simp [aboveN]
  unfold leastOf
  rw [hn, hm]
  simp only
  by_cases hk : ns[j].kind = kValue
  · rw [if_pos hk, if_pos hk]
    obtain ⟨m, x, hf, hmj, hx, hxk, hxy, hfirst⟩ := firstVal_spec hn hk
    obtain ⟨q, y, hf', hqj, hy, hyk, hyy, hfirst'⟩ := firstVal_spec hm hk
    simp only at hf' hyy hfirst'
    rw [hf, hf']
    simp only [Option.getD_some]
    have hq0 : q ≠ 0 := by
      rintro rfl
      rw [h0] at hy
      injection hy with hy
      rw [← hy] at hyk
      exact absurd hyk (by decide)
    obtain ⟨q', rfl⟩ : ∃ q', q = q' + 1 := ⟨q - 1, by omega⟩
    have hq' : q' < ns.length := by omega
    have hg := List.getElem?_eq_getElem hq'
    have hy2 := E.get q' _ hg
    rw [hy] at hy2
    injection hy2 with hy2
    rw [hy2] at hyk hyy
    simp only at hyk hyy
    rcases Nat.lt_trichotomy m q' with hlt | rfl | hlt
    · exact absurd ⟨hxk, hxy⟩ (hfirst' (m + 1) _ (by omega) (E.get m x hx))
    · rfl
    · exact absurd ⟨hyk, hyy⟩ (hfirst q' _ hlt hg)
  · rw [if_neg hk, if_neg hk]
end Go.Proofs.Ytlobmpfgimdpgaa
