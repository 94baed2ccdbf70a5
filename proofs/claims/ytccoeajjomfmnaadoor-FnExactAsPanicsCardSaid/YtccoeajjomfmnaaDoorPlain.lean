/-
  More on nodes as data: the sizes of trees, what is found in them, chains, least indices, and forests that lie shifted in others. Plain mathematics, no program.
  Conditions: none.
-/
import Derived.Test.YtccoeajjomfmnaaDoorTree
namespace Go.Proofs.YtccoeajjomfmnaaDoor

/-- The tree of the first node. -/
def rootTree (ns : List Nd) : List Nat := if isThere ns 0 then treeOf ns 0 else []
/-- The tree of a node by an index that may be none. -/
def treeAt (ns : List Nd) (i : Int) : List Nat := if 0 ≤ i ∧ isThere ns i.toNat = true then treeOf ns i.toNat else []
theorem treeAt_zero (ns : List Nd) : treeAt ns 0 = rootTree ns := by
  unfold treeAt rootTree
  simp

/-- How many errors a tree has. -/
def treeLen (ns : List Nd) (i : Nat) : Nat := (treeOf ns i).length
theorem treeLen_eq (ns : List Nd) (i : Nat) (hi : i < ns.length) : treeLen ns i = 1 + ((kidsOf ns i).map (treeLen ns)).sum := by
  unfold treeLen
  rw [treeOf_eq ns i hi, List.length_cons, List.length_flatMap, Nat.add_comm]

theorem sum_le_of {l : List Nat} {b : Nat} (h : ∀ x ∈ l, x ≤ b) : l.sum ≤ l.length * b := by
  induction l with
  | nil => simp
  | cons a r ih =>
    have h1 := h a (by simp)
    have h2 := ih (fun x hx => h x (by simp [hx]))
    simp only [List.sum_cons, List.length_cons, Nat.succ_mul]
    omega
theorem kidsBy_length (ns : List Nd) (i : Nat) (k : K8) (kids : List Int) : (kidsBy ns i k kids).length ≤ kids.length := by
  have one : (kids.head?.bind (liveKid ns i)).toList.length ≤ kids.length := by
    cases kids with
    | nil => simp
    | cons a r =>
      simp only [List.head?_cons, Option.bind_some, List.length_cons]
      cases liveKid ns i a <;> simp
  cases k <;> simp only [kidsBy] <;> first | exact one | exact List.length_filterMap_le _ _ | (simp)
theorem kidsOf_length (ns : List Nd) (i : Nat) (K : Nat) (h : ∀ nd ∈ ns, nd.kids.length ≤ K) : (kidsOf ns i).length ≤ K := by
  unfold kidsOf
  split
  · simp
  · rename_i nd hn
    split
    · simp
    · exact Nat.le_trans (kidsBy_length _ _ _ _) (h nd (List.mem_of_getElem? hn))
/-- A tree of few nodes with few kids each is small. -/
theorem treeLen_le (ns : List Nd) (K : Nat) (h : ∀ nd ∈ ns, nd.kids.length ≤ K) : ∀ (m i : Nat), i < ns.length → ns.length - i ≤ m → treeLen ns i ≤ (K + 1) ^ m := by
  intro m
  induction m with
  | zero => intro i hi hm; omega
  | succ m ih =>
    intro i hi hm
    rw [treeLen_eq ns i hi]
    have h1 : ∀ x ∈ (kidsOf ns i).map (treeLen ns), x ≤ (K + 1) ^ m := by
      intro x hx
      obtain ⟨j, hj, rfl⟩ := List.mem_map.1 hx
      have := kidsOf_mem hj
      exact ih j this.2.1 (by omega)
    have h2 := sum_le_of h1
    rw [List.length_map] at h2
    have h3 := kidsOf_length ns i K h
    have h4 : (kidsOf ns i).length * (K + 1) ^ m ≤ K * (K + 1) ^ m := Nat.mul_le_mul_right _ h3
    have h5 : 1 ≤ (K + 1) ^ m := Nat.pow_pos (by omega)
    rw [Nat.pow_succ]
    have : (K + 1) ^ m * (K + 1) = K * (K + 1) ^ m + (K + 1) ^ m := by rw [Nat.mul_add, Nat.mul_one, Nat.mul_comm]
    omega

theorem mem_treeOf (ns : List Nd) : ∀ (m i j : Nat), i < ns.length → ns.length - i ≤ m → isThere ns i = true → j ∈ treeOf ns i → i ≤ j ∧ j < ns.length ∧ isThere ns j = true := by
  intro m
  induction m with
  | zero => intro i j hi hm; omega
  | succ m ih =>
    intro i j hi hm ht hj
    rw [treeOf_eq ns i hi] at hj
    rcases List.mem_cons.1 hj with rfl | hj
    · exact ⟨Nat.le_refl _, hi, ht⟩
    · obtain ⟨k, hk, hj⟩ := List.mem_flatMap.1 hj
      have hk2 := kidsOf_mem hk
      have := ih k j hk2.2.1 (by omega) hk2.2.2 hj
      exact ⟨by omega, this.2⟩
theorem mem_rootTree {ns : List Nd} {j : Nat} (h : j ∈ rootTree ns) : j < ns.length ∧ isThere ns j = true := by
  unfold rootTree at h
  split at h
  · rename_i ht
    have := mem_treeOf ns _ 0 j (isThere_lt ht) (Nat.le_refl _) ht h
    exact this.2
  · simp at h

/-- Whether a node is a value with a key, or says to be it. -/
def hitVal (ns : List Nd) (key : Int) (i : Nat) : Bool :=
  match ns[i]? with
  | none => false
  | some nd => (decide (nd.kind = kValue) || decide (nd.kind = kAlike)) && decide (nd.key = key)

/-- What a node tells as a value. -/
def valKey (ns : List Nd) (i : Nat) : Option Int :=
  match ns[i]? with
  | none => none
  | some nd => if nd.kind = kValue ∨ nd.kind = kActs then some nd.key else none

/-- Whether a node is of a kind. -/
def isKind (ns : List Nd) (s : ByteArray) (i : Nat) : Bool :=
  match ns[i]? with
  | none => false
  | some nd => decide (nd.kind = s)

/-- The first index of a value with a key. -/
def firstVal (ns : List Nd) (key : Int) : Option Nat := (List.range ns.length).find? fun i => isKind ns kValue i && match ns[i]? with | none => false | some nd => decide (nd.key = key)

/-- The least index of an error that is equal to one. -/
def leastOf (ns : List Nd) (i : Nat) : Nat :=
  match ns[i]? with
  | none => i
  | some nd => if nd.kind = kValue then (firstVal ns nd.key).getD i else i

/-- What the method Unwrap of a node returns, if this is one error. -/
def unwrapOf (ns : List Nd) (i : Nat) : Option Nat :=
  if isThere ns i && !isKind ns kMany i && !isKind ns kJoin i then (kidsOf ns i).head? else none
theorem unwrapOf_lt {ns : List Nd} {i j : Nat} (h : unwrapOf ns i = some j) : i < j ∧ j < ns.length ∧ isThere ns j = true := by
  unfold unwrapOf at h
  split at h
  · exact kidsOf_mem (List.mem_of_mem_head? h)
  · cases h
/-- A node and what is unwrapped of it, again and again. -/
def chainF (ns : List Nd) : Nat → Nat → List Nat
  | 0, _ => []
  | f + 1, i => i :: match unwrapOf ns i with | none => [] | some j => chainF ns f j
def chainOf (ns : List Nd) (i : Nat) : List Nat := chainF ns (ns.length - i) i
theorem chainF_enough (ns : List Nd) : ∀ (f i : Nat), i < ns.length → ns.length - i ≤ f → chainF ns f i = chainOf ns i := by
  have key : ∀ (m f g i : Nat), i < ns.length → ns.length - i ≤ m → ns.length - i ≤ f → ns.length - i ≤ g → chainF ns f i = chainF ns g i := by
    intro m
    induction m with
    | zero => intro f g i hi hm; omega
    | succ m ih =>
      intro f g i hi hm hf hg
      obtain ⟨f', rfl⟩ : ∃ f', f = f' + 1 := ⟨f - 1, by omega⟩
      obtain ⟨g', rfl⟩ : ∃ g', g = g' + 1 := ⟨g - 1, by omega⟩
      simp only [chainF]
      congr 1
      cases hu : unwrapOf ns i with
      | none => rfl
      | some j =>
        have := unwrapOf_lt hu
        exact ih f' g' j this.2.1 (by omega) (by omega) (by omega)
  intro f i hi h
  exact key _ _ _ _ hi (Nat.le_refl _) h (Nat.le_refl _)
theorem chainOf_eq (ns : List Nd) (i : Nat) (hi : i < ns.length) : chainOf ns i = i :: match unwrapOf ns i with | none => [] | some j => chainOf ns j := by
  conv => lhs; unfold chainOf
  obtain ⟨f, hf⟩ : ∃ f, ns.length - i = f + 1 := ⟨ns.length - i - 1, by omega⟩
  rw [hf]
  simp only [chainF]
  congr 1
  cases hu : unwrapOf ns i with
  | none => rfl
  | some j =>
    have := unwrapOf_lt hu
    exact chainF_enough ns f j this.2.1 (by omega)
def rootChain (ns : List Nd) : List Nat := if isThere ns 0 then chainOf ns 0 else []
theorem chainOf_length (ns : List Nd) : ∀ (m i : Nat), i < ns.length → ns.length - i ≤ m → (chainOf ns i).length ≤ m := by
  intro m
  induction m with
  | zero => intro i hi hm; omega
  | succ m ih =>
    intro i hi hm
    rw [chainOf_eq ns i hi]
    cases hu : unwrapOf ns i with
    | none => simp
    | some j =>
      have := unwrapOf_lt hu
      have := ih j this.2.1 (by omega)
      simp only [List.length_cons]
      omega

/-- The forest ns lies in ms, d places on. -/
structure Emb (ns ms : List Nd) (d : Nat) : Prop where
  len : ns.length + d ≤ ms.length
  kid : ∀ (i : Nat) (nd : Nd), ns[i]? = some nd → ∀ k ∈ nd.kids, 0 ≤ k ∧ k < (ns.length : Int)
  get : ∀ (i : Nat) (nd : Nd), ns[i]? = some nd → ms[i + d]? = some ⟨nd.kind, nd.key, nd.text, nd.kids.map (· + (d : Int))⟩

theorem lt_of_get {α : Type} {l : List α} {i : Nat} {x : α} (h : l[i]? = some x) : i < l.length := by
  rcases Nat.lt_or_ge i l.length with h' | h'
  · exact h'
  · rw [List.getElem?_eq_none h'] at h; cases h

theorem Emb.there {ns ms : List Nd} {d : Nat} (E : Emb ns ms d) : ∀ (m i : Nat), i < ns.length → ns.length - i ≤ m → isThere ms (i + d) = isThere ns i := by
  intro m
  induction m with
  | zero => intro i hi hm; omega
  | succ m ih =>
    intro i hi hm
    have hn : ns[i]? = some ns[i] := List.getElem?_eq_getElem hi
    rw [isThere_eq ns i _ hn, isThere_eq ms (i + d) _ (E.get i _ hn)]
    simp only
    cases kindOf ns[i].kind with
    | none => rfl
    | some k =>
      cases k <;> simp only
      rw [List.any_map]
      refine any_congr fun k hk => ?_
      have hb := E.kid i _ hn k hk
      have hl := E.len
      simp only [Function.comp]
      unfold liveKid
      have e1 : okKid ms.length (i + d) (k + (d : Int)) = okKid ns.length i k := by
        unfold okKid
        congr 1
        apply propext
        omega
      rw [e1]
      cases hok : okKid ns.length i k with
      | false => rfl
      | true =>
        have h1 := okKid_lt hok
        have e2 : (k + (d : Int)).toNat = k.toNat + d := by omega
        rw [e2, ih k.toNat h1.2 (by omega)]
        cases isThere ns k.toNat <;> rfl
theorem Emb.live {ns ms : List Nd} {d : Nat} (E : Emb ns ms d) {i : Nat} {k : Int} (hk : 0 ≤ k ∧ k < (ns.length : Int)) : liveKid ms (i + d) (k + (d : Int)) = (liveKid ns i k).map (· + d) := by
  have hl := E.len
  unfold liveKid
  have e1 : okKid ms.length (i + d) (k + (d : Int)) = okKid ns.length i k := by
    unfold okKid
    congr 1
    apply propext
    omega
  rw [e1]
  cases hok : okKid ns.length i k with
  | false => rfl
  | true =>
    have h1 := okKid_lt hok
    have e2 : (k + (d : Int)).toNat = k.toNat + d := by omega
    rw [e2, E.there _ k.toNat h1.2 (Nat.le_refl _)]
    cases isThere ns k.toNat <;> rfl
theorem Emb.kidsBy {ns ms : List Nd} {d : Nat} (E : Emb ns ms d) {i : Nat} (k : K8) (kids : List Int) (hk : ∀ k ∈ kids, 0 ≤ k ∧ k < (ns.length : Int)) : kidsBy ms (i + d) k (kids.map (· + (d : Int))) = (kidsBy ns i k kids).map (· + d) := by
  have one : ((kids.map (· + (d : Int))).head?.bind (liveKid ms (i + d))).toList = ((kids.head?.bind (liveKid ns i)).toList).map (· + d) := by
    cases kids with
    | nil => rfl
    | cons a r =>
      simp only [List.map_cons, List.head?_cons, Option.bind_some]
      rw [E.live (hk a (by simp))]
      cases liveKid ns i a <;> rfl
  have all : (kids.map (· + (d : Int))).filterMap (liveKid ms (i + d)) = (kids.filterMap (liveKid ns i)).map (· + d) := by
    induction kids with
    | nil => rfl
    | cons a r ih =>
      have hr := ih (fun k h => hk k (by simp [h])) (by
        cases r with
        | nil => rfl
        | cons b r =>
          simp only [List.map_cons, List.head?_cons, Option.bind_some]
          rw [E.live (hk b (by simp))]
          cases liveKid ns i b <;> rfl)
      rw [List.map_cons, List.filterMap_cons, List.filterMap_cons, hr, E.live (hk a (by simp))]
      cases liveKid ns i a <;> rfl
  cases k <;> simp only [Go.Proofs.YtccoeajjomfmnaaDoor.kidsBy] <;> first | exact one | exact all | rfl
theorem Emb.kids {ns ms : List Nd} {d : Nat} (E : Emb ns ms d) {i : Nat} (hi : i < ns.length) : kidsOf ms (i + d) = (kidsOf ns i).map (· + d) := by
  have hn : ns[i]? = some ns[i] := List.getElem?_eq_getElem hi
  unfold kidsOf
  rw [hn, E.get i _ hn]
  simp only
  cases kindOf ns[i].kind with
  | none => rfl
  | some k => exact E.kidsBy k _ (E.kid i _ hn)
theorem Emb.tree {ns ms : List Nd} {d : Nat} (E : Emb ns ms d) : ∀ (m i : Nat), i < ns.length → ns.length - i ≤ m → treeOf ms (i + d) = (treeOf ns i).map (· + d) := by
  intro m
  induction m with
  | zero => intro i hi hm; omega
  | succ m ih =>
    intro i hi hm
    have hl := E.len
    rw [treeOf_eq ns i hi, treeOf_eq ms (i + d) (by omega), E.kids hi, List.map_cons, List.map_flatMap, List.flatMap_map]
    congr 1
    refine flatMap_congr fun j hj => ?_
    have := kidsOf_mem hj
    exact ih j this.2.1 (by omega)
theorem Emb.hit {ns ms : List Nd} {d : Nat} (E : Emb ns ms d) {i : Nat} (hi : i < ns.length) (key : Int) : hitVal ms key (i + d) = hitVal ns key i := by
  have hn : ns[i]? = some ns[i] := List.getElem?_eq_getElem hi
  unfold hitVal
  rw [hn, E.get i _ hn]
theorem Emb.val {ns ms : List Nd} {d : Nat} (E : Emb ns ms d) {i : Nat} (hi : i < ns.length) : valKey ms (i + d) = valKey ns i := by
  have hn : ns[i]? = some ns[i] := List.getElem?_eq_getElem hi
  unfold valKey
  rw [hn, E.get i _ hn]
theorem Emb.kind {ns ms : List Nd} {d : Nat} (E : Emb ns ms d) {i : Nat} (hi : i < ns.length) (s : ByteArray) : isKind ms s (i + d) = isKind ns s i := by
  have hn : ns[i]? = some ns[i] := List.getElem?_eq_getElem hi
  unfold isKind
  rw [hn, E.get i _ hn]
/-- The tree of the first node of a forest, where it lies. -/
theorem Emb.root {ns ms : List Nd} {d : Nat} (E : Emb ns ms d) (h0 : 0 < ns.length) : (if isThere ms d then treeOf ms d else []) = (rootTree ns).map (· + d) := by
  have h1 := E.there _ 0 h0 (Nat.le_refl _)
  have h2 := E.tree _ 0 h0 (Nat.le_refl _)
  rw [Nat.zero_add] at h1 h2
  unfold rootTree
  rw [h1, h2]
  split <;> rfl
end Go.Proofs.YtccoeajjomfmnaaDoor
