/-
  Nodes as data: which of them are errors, which errors each of these wraps, and the tree of an error. Plain mathematics, no program.
  Conditions: none.
-/
import Derived.Test.YtccoeajjomfmnaaDoorMem
namespace Go.Proofs.YtccoeajjomfmnaaDoor

/-- The eight kinds of errors. -/
inductive K8 where
  | text | value | list | wrap | many | join | alike | acts
  deriving DecidableEq

def kText : ByteArray := ⟨#[116, 101, 120, 116]⟩
def kValue : ByteArray := ⟨#[118, 97, 108, 117, 101]⟩
def kList : ByteArray := ⟨#[108, 105, 115, 116]⟩
def kWrap : ByteArray := ⟨#[119, 114, 97, 112]⟩
def kMany : ByteArray := ⟨#[109, 97, 110, 121]⟩
def kJoin : ByteArray := ⟨#[106, 111, 105, 110]⟩
def kAlike : ByteArray := ⟨#[97, 108, 105, 107, 101]⟩
def kActs : ByteArray := ⟨#[97, 99, 116, 115]⟩

/-- The word of a kind. -/
def K8.word : K8 → ByteArray
  | .text => kText | .value => kValue | .list => kList | .wrap => kWrap | .many => kMany | .join => kJoin | .alike => kAlike | .acts => kActs

/-- The kind of a word, if it is one. -/
def kindOf (s : ByteArray) : Option K8 :=
  if s = kText then some .text else if s = kValue then some .value else if s = kList then some .list else if s = kWrap then some .wrap
  else if s = kMany then some .many else if s = kJoin then some .join else if s = kAlike then some .alike else if s = kActs then some .acts else none

theorem kindOf_word (k : K8) : kindOf k.word = some k := by cases k <;> decide
theorem word_of_kind {s : ByteArray} {k : K8} (h : kindOf s = some k) : s = k.word := by
  unfold kindOf at h
  repeat' (split at h)
  all_goals first | (injection h with h; subst h; assumption) | (cases h)
theorem kindOf_none {s : ByteArray} (h : kindOf s = none) : ∀ k : K8, s ≠ k.word := by
  intro k e
  rw [e, kindOf_word] at h
  cases h

theorem toList_ne {s : ByteArray} {l : List UInt8} (h : s ≠ ⟨l.toArray⟩) : (s.toList == l) = false := by
  rw [beq_eq_false_iff_ne]
  intro e
  apply h
  rw [ByteArray.toList_eq] at e
  cases s with
  | mk d => simp at e; subst e; simp

/-- An index of a kid: greater than its node's, and one of so many. -/
def okKid (n at_ : Nat) (k : Int) : Bool := decide ((at_ : Int) < k ∧ k < (n : Int))

/-- Whether a node is an error; so many steps are enough. -/
def thereF (ns : List Nd) : Nat → Nat → Bool
  | 0, _ => false
  | f + 1, i => match ns[i]? with
    | none => false
    | some nd => match kindOf nd.kind with
      | none => false
      | some .join => nd.kids.any fun k => okKid ns.length i k && thereF ns f k.toNat
      | some _ => true

def isThere (ns : List Nd) (i : Nat) : Bool := thereF ns (ns.length - i) i

theorem okKid_lt {n i : Nat} {k : Int} (h : okKid n i k = true) : i < k.toNat ∧ k.toNat < n := by
  have := of_decide_eq_true h
  omega

theorem any_congr {α : Type} {l : List α} {p q : α → Bool} (h : ∀ x ∈ l, p x = q x) : l.any p = l.any q := by
  induction l with
  | nil => rfl
  | cons a r ih => simp only [List.any_cons, h a (by simp), ih (fun x hx => h x (by simp [hx]))]

theorem thereF_enough (ns : List Nd) : ∀ (f i : Nat), ns.length - i ≤ f → thereF ns f i = isThere ns i := by
  have key : ∀ (m f g i : Nat), ns.length - i ≤ m → ns.length - i ≤ f → ns.length - i ≤ g → thereF ns f i = thereF ns g i := by
    intro m
    induction m with
    | zero =>
      intro f g i hm hf hg
      have hi : ns[i]? = none := List.getElem?_eq_none (by omega)
      cases f <;> cases g <;> simp [thereF, hi]
    | succ m ih =>
      intro f g i hm hf hg
      by_cases hi : i < ns.length
      · obtain ⟨f', rfl⟩ : ∃ f', f = f' + 1 := ⟨f - 1, by omega⟩
        obtain ⟨g', rfl⟩ : ∃ g', g = g' + 1 := ⟨g - 1, by omega⟩
        simp only [thereF]
        cases ns[i]? with
        | none => rfl
        | some nd =>
          simp only
          cases hk : kindOf nd.kind with
          | none => rfl
          | some k =>
            cases k <;> simp only
            refine any_congr fun k _ => ?_
            cases hok : okKid ns.length i k with
            | false => rfl
            | true =>
              have := okKid_lt hok
              simp only [Bool.true_and]
              exact ih f' g' k.toNat (by omega) (by omega) (by omega)
      · have hn : ns[i]? = none := List.getElem?_eq_none (by omega)
        cases f <;> cases g <;> simp [thereF, hn]
  intro f i h
  exact key _ _ _ _ (Nat.le_refl _) h (Nat.le_refl _)

/-- A kid that is an error. -/
def liveKid (ns : List Nd) (i : Nat) (k : Int) : Option Nat := if okKid ns.length i k && isThere ns k.toNat then some k.toNat else none

theorem isThere_eq (ns : List Nd) (i : Nat) (nd : Nd) (h : ns[i]? = some nd) :
    isThere ns i = match kindOf nd.kind with
      | none => false
      | some .join => nd.kids.any fun k => (liveKid ns i k).isSome
      | some _ => true := by
  have hi : i < ns.length := by
    rcases Nat.lt_or_ge i ns.length with h' | h'
    · exact h'
    · rw [List.getElem?_eq_none h'] at h; cases h
  unfold isThere
  obtain ⟨f, hf⟩ : ∃ f, ns.length - i = f + 1 := ⟨ns.length - i - 1, by omega⟩
  rw [hf]
  simp only [thereF, h]
  cases kindOf nd.kind with
  | none => rfl
  | some k =>
    cases k <;> simp only
    refine any_congr fun k _ => ?_
    unfold liveKid
    cases hok : okKid ns.length i k with
    | false => simp
    | true =>
      have := okKid_lt hok
      rw [thereF_enough ns f k.toNat (by omega)]
      cases isThere ns k.toNat <;> simp

theorem isThere_none (ns : List Nd) (i : Nat) (h : ns.length ≤ i) : isThere ns i = false := by
  unfold isThere
  rw [show ns.length - i = 0 by omega]
  rfl

theorem liveKid_some {ns : List Nd} {i : Nat} {k : Int} {j : Nat} (h : liveKid ns i k = some j) : i < j ∧ j < ns.length ∧ isThere ns j = true ∧ k = (j : Int) := by
  unfold liveKid at h
  split at h
  · rename_i hc
    simp only [Bool.and_eq_true] at hc
    injection h with h
    subst h
    have h1 := okKid_lt hc.1
    have h2 := of_decide_eq_true hc.1
    exact ⟨h1.1, h1.2, hc.2, by omega⟩
  · cases h

/-- What a node of a kind wraps. -/
def kidsBy (ns : List Nd) (i : Nat) (k : K8) (kids : List Int) : List Nat :=
  match k with
  | .wrap | .alike | .acts => (kids.head?.bind (liveKid ns i)).toList
  | .many | .join => kids.filterMap (liveKid ns i)
  | _ => []

/-- The errors that a node wraps, in order. -/
def kidsOf (ns : List Nd) (i : Nat) : List Nat :=
  match ns[i]? with
  | none => []
  | some nd => match kindOf nd.kind with
    | none => []
    | some k => kidsBy ns i k nd.kids

theorem kidsBy_mem {ns : List Nd} {i : Nat} {k : K8} {kids : List Int} {j : Nat} (h : j ∈ kidsBy ns i k kids) : i < j ∧ j < ns.length ∧ isThere ns j = true := by
  have key : ∀ x : Int, liveKid ns i x = some j → i < j ∧ j < ns.length ∧ isThere ns j = true := fun x hx => ⟨(liveKid_some hx).1, (liveKid_some hx).2.1, (liveKid_some hx).2.2.1⟩
  have one : j ∈ (kids.head?.bind (liveKid ns i)).toList → i < j ∧ j < ns.length ∧ isThere ns j = true := by
    intro h
    cases hk : kids.head? with
    | none => rw [hk] at h; simp at h
    | some x =>
      rw [hk] at h
      simp only [Option.bind_some, Option.mem_toList] at h
      exact key x h
  have all : j ∈ kids.filterMap (liveKid ns i) → i < j ∧ j < ns.length ∧ isThere ns j = true := by
    intro h
    obtain ⟨x, _, hx⟩ := List.mem_filterMap.1 h
    exact key x hx
  cases k <;> simp only [kidsBy] at h
  all_goals first | exact one h | exact all h | (simp at h)

theorem kidsOf_mem {ns : List Nd} {i j : Nat} (h : j ∈ kidsOf ns i) : i < j ∧ j < ns.length ∧ isThere ns j = true := by
  unfold kidsOf at h
  split at h
  · simp at h
  · split at h
    · simp at h
    · exact kidsBy_mem h

/-- The tree of an error; so many steps are enough. -/
def treeF (ns : List Nd) : Nat → Nat → List Nat
  | 0, _ => []
  | f + 1, i => i :: (kidsOf ns i).flatMap (treeF ns f)

def treeOf (ns : List Nd) (i : Nat) : List Nat := treeF ns (ns.length - i) i

theorem flatMap_congr {α β : Type} {l : List α} {f g : α → List β} (h : ∀ x ∈ l, f x = g x) : l.flatMap f = l.flatMap g := by
  induction l with
  | nil => rfl
  | cons a r ih => simp only [List.flatMap_cons, h a (by simp), ih (fun x hx => h x (by simp [hx]))]

theorem treeF_enough (ns : List Nd) : ∀ (f i : Nat), i < ns.length → ns.length - i ≤ f → treeF ns f i = treeOf ns i := by
  have key : ∀ (m f g i : Nat), i < ns.length → ns.length - i ≤ m → ns.length - i ≤ f → ns.length - i ≤ g → treeF ns f i = treeF ns g i := by
    intro m
    induction m with
    | zero => intro f g i hi hm; omega
    | succ m ih =>
      intro f g i hi hm hf hg
      obtain ⟨f', rfl⟩ : ∃ f', f = f' + 1 := ⟨f - 1, by omega⟩
      obtain ⟨g', rfl⟩ : ∃ g', g = g' + 1 := ⟨g - 1, by omega⟩
      simp only [treeF]
      congr 1
      refine flatMap_congr fun j hj => ?_
      have := kidsOf_mem hj
      exact ih f' g' j this.2.1 (by omega) (by omega) (by omega)
  intro f i hi h
  exact key _ _ _ _ hi (Nat.le_refl _) h (Nat.le_refl _)

theorem treeOf_eq (ns : List Nd) (i : Nat) (hi : i < ns.length) : treeOf ns i = i :: (kidsOf ns i).flatMap (treeOf ns) := by
  conv => lhs; unfold treeOf
  obtain ⟨f, hf⟩ : ∃ f, ns.length - i = f + 1 := ⟨ns.length - i - 1, by omega⟩
  rw [hf]
  simp only [treeF]
  congr 1
  refine flatMap_congr fun j hj => ?_
  have := kidsOf_mem hj
  exact treeF_enough ns f j this.2.1 (by omega)

theorem isThere_lt {ns : List Nd} {i : Nat} (h : isThere ns i = true) : i < ns.length := by
  rcases Nat.lt_or_ge i ns.length with h' | h'
  · exact h'
  · rw [isThere_none ns i h'] at h; cases h

theorem isThere_kind {ns : List Nd} {i : Nat} (h : isThere ns i = true) : ∃ nd k, ns[i]? = some nd ∧ kindOf nd.kind = some k := by
  have hi := isThere_lt h
  refine ⟨ns[i], ?_⟩
  have hg : ns[i]? = some ns[i] := List.getElem?_eq_getElem hi
  have e := isThere_eq ns i ns[i] hg
  rw [h] at e
  cases hk : kindOf ns[i].kind with
  | none => rw [hk] at e; simp at e
  | some k => exact ⟨k, hg, rfl⟩
end Go.Proofs.YtccoeajjomfmnaaDoor
