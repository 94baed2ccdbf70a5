/-
  What is found in nodes with one more above them, and in the nodes of a join of two. Plain mathematics, no program.
  Conditions: none.
-/
import Derived.Test.YtccoeajjomfmnaaDoorOwnN
namespace Go.Proofs.YtccoeajjomfmnaaDoor

/-- All kids are indices of nodes. -/
def Cutted (ns : List Nd) : Prop := ∀ (i : Nat) (nd : Nd), ns[i]? = some nd → ∀ k ∈ nd.kids, 0 ≤ k ∧ k < (ns.length : Int)

theorem cutN_length (ns : List Nd) : (cutN ns).length = ns.length := by simp [cutN]
theorem cutN_get {ns : List Nd} {i : Nat} {nd : Nd} (h : (cutN ns)[i]? = some nd) : ∃ x, ns[i]? = some x ∧ nd = cutNd ns.length x := by
  unfold cutN at h
  rw [List.getElem?_map, Option.map_eq_some_iff] at h
  obtain ⟨x, hx, rfl⟩ := h
  exact ⟨x, hx, rfl⟩
theorem cutN_cutted (ns : List Nd) : Cutted (cutN ns) := by
  intro i nd h k hk
  obtain ⟨x, hx, rfl⟩ := cutN_get h
  have hlt := lt_of_get hx
  rw [cutN_length]
  obtain ⟨q, _, hq⟩ := List.mem_flatMap.1 hk
  unfold cutKid at hq
  split at hq
  · rename_i hc
    rw [List.mem_singleton] at hq
    subst hq
    exact hc
  · split at hq
    · simp at hq
    · rw [List.mem_singleton] at hq
      subst hq
      omega
theorem flat_id {f : Int → List Int} : ∀ (l : List Int), (∀ k ∈ l, f k = [k]) → l.flatMap f = l
  | [], _ => rfl
  | a :: r, h => by
    rw [List.flatMap_cons, h a (by simp), flat_id r (fun k hk => h k (by simp [hk]))]
    rfl
theorem cutN_id {ns : List Nd} (h : Cutted ns) : cutN ns = ns := by
  apply List.ext_getElem?
  intro i
  unfold cutN
  rw [List.getElem?_map]
  cases hx : ns[i]? with
  | none => rfl
  | some nd =>
    simp only [Option.map_some, Option.some.injEq]
    unfold cutNd
    rw [flat_id nd.kids (fun k hk => by unfold cutKid; rw [if_pos (h i nd hx k hk)])]
theorem flat_up (d : Int) : ∀ (l : List Int), (∀ k ∈ l, 0 ≤ k ∧ k < 1073741824) → l.flatMap (upKid d) = l.map (· + d)
  | [], _ => rfl
  | a :: r, h => by
    have ha := h a (by simp)
    rw [List.flatMap_cons, flat_up d r (fun k hk => h k (by simp [hk])), upKid, if_pos ⟨ha.2, ha.1⟩]
    rfl

/-- Nodes that are moved on by d and lie behind d others. -/
theorem emb_up {ns front back : List Nd} (h : Cutted ns) (hl : ns.length ≤ 1048576) : Emb ns (front ++ (ns.map (upNd (front.length : Int)) ++ back)) front.length := by
  refine ⟨by simp; omega, h, fun i nd hi => ?_⟩
  have hlt := lt_of_get hi
  rw [List.getElem?_append_right (by omega), Nat.add_sub_cancel, List.getElem?_append_left (by simpa using hlt), List.getElem?_map, hi]
  simp only [Option.map_some, Option.some.injEq]
  unfold upNd
  rw [flat_up _ nd.kids (fun k hk => by have := h i nd hi k hk; omega)]

theorem emb_above {ns : List Nd} (h : Cutted ns) (hl : ns.length ≤ 1048576) (kind : ByteArray) (extra : List Int) : Emb ns (aboveN kind ns extra) 1 := by
  have := emb_up (front := [⟨kind, 9, kAbove, 1 :: extra⟩]) (back := []) h hl
  simpa [aboveN] using this

theorem live_emb {ns ms : List Nd} {d : Nat} (E : Emb ns ms d) (hd : 0 < d) (hx : ns.length = 0 → ms.length ≤ d) : liveKid ms 0 (d : Int) = if isThere ns 0 then some d else none := by
  unfold liveKid okKid
  have hl := E.len
  by_cases h0 : 0 < ns.length
  · have e := E.there _ 0 h0 (Nat.le_refl _)
    rw [Nat.zero_add] at e
    have hok : decide (((0 : Nat) : Int) < (d : Int) ∧ (d : Int) < (ms.length : Int)) = true := decide_eq_true (by omega)
    rw [hok, Int.toNat_natCast, e, Bool.true_and]
  · have hm := hx (by omega)
    have hok : decide (((0 : Nat) : Int) < (d : Int) ∧ (d : Int) < (ms.length : Int)) = false := decide_eq_false (by omega)
    rw [hok, isThere_none ns 0 (by omega)]
    rfl

/-- The tree of a node above others. -/
theorem above_root {ns : List Nd} (h : Cutted ns) (hl : ns.length ≤ 1048576) (k : K8) (hk : k = .wrap ∨ k = .many ∨ k = .join ∨ k = .alike ∨ k = .acts) :
    isThere (aboveN k.word ns []) 0 = (decide (k ≠ .join) || isThere ns 0) ∧ kidsOf (aboveN k.word ns []) 0 = (if isThere ns 0 then [1] else []) ∧
    rootTree (aboveN k.word ns []) = if (decide (k ≠ .join) || isThere ns 0) = true then 0 :: (rootTree ns).map (· + 1) else [] := by
  have E := emb_above h hl k.word []
  have hn : (aboveN k.word ns [])[0]? = some ⟨k.word, 9, kAbove, [1]⟩ := rfl
  have hlive : liveKid (aboveN k.word ns []) 0 1 = if isThere ns 0 then some 1 else none := by
    have := live_emb E (by omega) (fun h0 => by simp [aboveN, h0])
    simpa using this
  have hkids : kidsOf (aboveN k.word ns []) 0 = (if isThere ns 0 then [1] else []) := by
    unfold kidsOf
    rw [hn]
    simp only [kindOf_word]
    rcases hk with rfl | rfl | rfl | rfl | rfl <;> simp only [kidsBy, List.head?_cons, Option.bind_some, List.filterMap_cons, List.filterMap_nil, hlive] <;> cases isThere ns 0 <;> rfl
  have hth : isThere (aboveN k.word ns []) 0 = (decide (k ≠ .join) || isThere ns 0) := by
    rw [isThere_eq _ 0 _ hn]
    simp only [kindOf_word]
    rcases hk with rfl | rfl | rfl | rfl | rfl <;> simp only [List.any_cons, List.any_nil, hlive] <;> cases isThere ns 0 <;> rfl
  refine ⟨hth, hkids, ?_⟩
  unfold rootTree
  rw [hth]
  split
  · rename_i hc
    rw [treeOf_eq _ 0 (by simp [aboveN]), hkids]
    congr 1
    by_cases ht : isThere ns 0 = true
    · rw [if_pos ht, if_pos ht, List.flatMap_singleton]
      have := E.tree _ 0 (isThere_lt ht) (Nat.le_refl _)
      rw [Nat.zero_add] at this
      exact this
    · rw [if_neg ht, if_neg ht]
      rfl
  · rfl

theorem any_emb {ns ms : List Nd} {d : Nat} (E : Emb ns ms d) (key : Int) (l : List Nat) (hl : ∀ i ∈ l, i < ns.length) : (l.map (· + d)).any (hitVal ms key) = l.any (hitVal ns key) := by
  rw [List.any_map]
  exact any_congr fun i hi => E.hit (hl i hi) key
theorem some_emb {ns ms : List Nd} {d : Nat} (E : Emb ns ms d) : ∀ (l : List Nat), (∀ i ∈ l, i < ns.length) → (l.map (· + d)).findSome? (valKey ms) = l.findSome? (valKey ns)
  | [], _ => rfl
  | a :: r, h => by
    rw [List.map_cons, List.findSome?_cons, List.findSome?_cons, E.val (h a (by simp)), some_emb E r (fun i hi => h i (by simp [hi]))]
theorem root_lt (ns : List Nd) : ∀ i ∈ rootTree ns, i < ns.length := fun _ hi => (mem_rootTree hi).1

theorem hit_above (kind : ByteArray) (ns : List Nd) (key : Int) (h1 : kind ≠ kValue) (h2 : kind ≠ kAlike) : hitVal (aboveN kind ns []) key 0 = false := by
  show ((decide (kind = kValue) || decide (kind = kAlike)) && decide ((9 : Int) = key)) = false
  simp [h1, h2]
theorem hit_alike (ns : List Nd) (key : Int) : hitVal (aboveN kAlike ns []) key 0 = decide ((9 : Int) = key) := by
  show ((decide (kAlike = kValue) || decide (kAlike = kAlike)) && decide ((9 : Int) = key)) = _
  simp

/-- What is found above. -/
theorem is_above {ns : List Nd} (h : Cutted ns) (hl : ns.length ≤ 1048576) (k : K8) (hk : k = .wrap ∨ k = .many ∨ k = .join ∨ k = .acts) (key : Int) :
    (rootTree (aboveN k.word ns [])).any (hitVal (aboveN k.word ns []) key) = (rootTree ns).any (hitVal ns key) := by
  rw [(above_root h hl k (by rcases hk with h | h | h | h <;> simp [h])).2.2]
  have hh : hitVal (aboveN k.word ns []) key 0 = false := hit_above _ _ _ (by rcases hk with rfl | rfl | rfl | rfl <;> decide) (by rcases hk with rfl | rfl | rfl | rfl <;> decide)
  split
  · rw [List.any_cons, hh, Bool.false_or]
    exact any_emb (emb_above h hl _ _) key _ (root_lt ns)
  · rename_i hc
    have ht : isThere ns 0 = false := by
      cases ht : isThere ns 0 with
      | false => rfl
      | true => rw [ht] at hc; simp at hc
    unfold rootTree
    rw [ht]
    rfl
theorem is_above_alike {ns : List Nd} (h : Cutted ns) (hl : ns.length ≤ 1048576) (key : Int) :
    (rootTree (aboveN kAlike ns [])).any (hitVal (aboveN kAlike ns []) key) = (decide ((9 : Int) = key) || (rootTree ns).any (hitVal ns key)) := by
  have hr := (above_root h hl .alike (by simp)).2.2
  simp only [K8.word] at hr
  rw [hr, if_pos (by simp), List.any_cons, hit_alike]
  congr 1
  exact any_emb (emb_above h hl _ _) key _ (root_lt ns)

/-- The nodes of a join of two. -/
theorem beside_eq {a b : List Nd} (ha : Cutted a) : besideN a b = [⟨kJoin, 9, kAbove, if a.length = 0 then [0, 1] else [1, 1 + (a.length : Int)]⟩] ++ (a.map (upNd 1) ++ b.map (upNd (1 + (a.length : Int)))) := by
  unfold besideN
  rw [cutN_id ha]
  by_cases h0 : a.length = 0
  · rw [if_pos h0, if_pos h0]
    have : a = [] := List.eq_nil_of_length_eq_zero h0
    subst this
    rfl
  · rw [if_neg h0, if_neg h0]
    simp [aboveN]
theorem emb_left {a b : List Nd} (ha : Cutted a) (hl : a.length ≤ 1048576) : Emb a (besideN a b) 1 := by
  rw [beside_eq ha]
  exact emb_up (front := [⟨kJoin, 9, kAbove, if a.length = 0 then [0, 1] else [1, 1 + (a.length : Int)]⟩]) ha hl
theorem emb_right {a b : List Nd} (ha : Cutted a) (hb : Cutted b) (hl : b.length ≤ 1048576) : Emb b (besideN a b) (1 + a.length) := by
  rw [beside_eq ha]
  have := emb_up (front := [⟨kJoin, 9, kAbove, if a.length = 0 then [0, 1] else [1, 1 + (a.length : Int)]⟩] ++ a.map (upNd 1)) (back := []) hb hl
  have e : (([⟨kJoin, 9, kAbove, if a.length = 0 then [0, 1] else [1, 1 + (a.length : Int)]⟩] ++ a.map (upNd 1) : List Nd)).length = 1 + a.length := by simp; omega
  rw [e] at this
  simpa using this
theorem beside_length (a b : List Nd) (ha : Cutted a) : (besideN a b).length = 1 + a.length + b.length := by
  rw [beside_eq ha]
  simp
  omega

theorem beside_kids {a b : List Nd} (ha : Cutted a) (hb : Cutted b) (hla : a.length ≤ 1048576) (hlb : b.length ≤ 1048576) :
    kidsOf (besideN a b) 0 = (if isThere a 0 then [1] else []) ++ (if isThere b 0 then [1 + a.length] else []) ∧ isThere (besideN a b) 0 = (isThere a 0 || isThere b 0) := by
  have EL := emb_left (b := b) ha hla
  have ER := emb_right ha hb hlb
  have hn : (besideN a b)[0]? = some ⟨kJoin, 9, kAbove, if a.length = 0 then [0, 1] else [1, 1 + (a.length : Int)]⟩ := by rw [beside_eq ha]; rfl
  have hR : liveKid (besideN a b) 0 (1 + (a.length : Int)) = if isThere b 0 then some (1 + a.length) else none := by
    have := live_emb ER (by omega) (fun h0 => by rw [beside_length a b ha]; omega)
    simpa using this
  have hkj : kindOf kJoin = some .join := by decide
  have hfm : (if a.length = 0 then [0, 1] else [1, 1 + (a.length : Int)]).filterMap (liveKid (besideN a b) 0) = (if isThere a 0 then [1] else []) ++ (if isThere b 0 then [1 + a.length] else []) := by
    by_cases h0 : a.length = 0
    · have hz : liveKid (besideN a b) 0 0 = none := by
        unfold liveKid okKid
        rw [decide_eq_false (by omega)]
        rfl
      have hR1 : liveKid (besideN a b) 0 1 = if isThere b 0 then some (1 + a.length) else none := by
        rw [← hR, h0]
        rfl
      rw [if_pos h0, List.filterMap_cons, hz, List.filterMap_cons, hR1, isThere_none a 0 (by omega)]
      cases isThere b 0 <;> rfl
    · have hL : liveKid (besideN a b) 0 1 = if isThere a 0 then some 1 else none := by
        have := live_emb EL (by omega) (fun h => absurd h h0)
        simpa using this
      rw [if_neg h0, List.filterMap_cons, hL, List.filterMap_cons, hR]
      cases isThere a 0 <;> cases isThere b 0 <;> rfl
  have hk : kidsOf (besideN a b) 0 = (if isThere a 0 then [1] else []) ++ (if isThere b 0 then [1 + a.length] else []) := by
    unfold kidsOf
    rw [hn]
    simp only [hkj, kidsBy]
    exact hfm
  refine ⟨hk, ?_⟩
  rw [isThere_eq _ 0 _ hn]
  simp only [hkj]
  have : ((if a.length = 0 then [0, 1] else [1, 1 + (a.length : Int)]).any fun k => (liveKid (besideN a b) 0 k).isSome) = !((if a.length = 0 then [0, 1] else [1, 1 + (a.length : Int)]).filterMap (liveKid (besideN a b) 0)).isEmpty := by
    generalize (if a.length = 0 then [0, 1] else [1, 1 + (a.length : Int)]) = l
    induction l with
    | nil => rfl
    | cons x r ih =>
      rw [List.any_cons, List.filterMap_cons, ih]
      cases liveKid (besideN a b) 0 x <;> rfl
  rw [this, hfm]
  cases isThere a 0 <;> cases isThere b 0 <;> rfl

theorem beside_root {a b : List Nd} (ha : Cutted a) (hb : Cutted b) (hla : a.length ≤ 1048576) (hlb : b.length ≤ 1048576) :
    rootTree (besideN a b) = if (isThere a 0 || isThere b 0) = true then 0 :: ((rootTree a).map (· + 1) ++ (rootTree b).map (· + (1 + a.length))) else [] := by
  have EL := emb_left (b := b) ha hla
  have ER := emb_right ha hb hlb
  obtain ⟨hk, ht⟩ := beside_kids ha hb hla hlb
  unfold rootTree
  rw [ht]
  split
  · rw [treeOf_eq _ 0 (by rw [beside_length a b ha]; omega), hk, List.flatMap_append]
    congr 1
    congr 1
    · by_cases h : isThere a 0 = true
      · rw [if_pos h, if_pos h, List.flatMap_singleton]
        have := EL.tree _ 0 (isThere_lt h) (Nat.le_refl _)
        rw [Nat.zero_add] at this
        exact this
      · rw [if_neg h, if_neg h]; rfl
    · by_cases h : isThere b 0 = true
      · rw [if_pos h, if_pos h, List.flatMap_singleton]
        have := ER.tree _ 0 (isThere_lt h) (Nat.le_refl _)
        rw [Nat.zero_add] at this
        exact this
      · rw [if_neg h, if_neg h]; rfl
  · rfl

theorem rootTree_none {ns : List Nd} (h : isThere ns 0 = false) : rootTree ns = [] := by unfold rootTree; rw [h]; rfl

theorem is_beside {a b : List Nd} (ha : Cutted a) (hb : Cutted b) (hla : a.length ≤ 1048576) (hlb : b.length ≤ 1048576) (key : Int) :
    (rootTree (besideN a b)).any (hitVal (besideN a b) key) = ((rootTree a).any (hitVal a key) || (rootTree b).any (hitVal b key)) := by
  rw [beside_root ha hb hla hlb]
  have h0 : hitVal (besideN a b) key 0 = false := by
    unfold hitVal
    rw [beside_eq ha]
    rfl
  split
  · rw [List.any_cons, h0, Bool.false_or, List.any_append, any_emb (emb_left ha hla) key _ (root_lt a), any_emb (emb_right ha hb hlb) key _ (root_lt b)]
  · rename_i hc
    have h1 : isThere a 0 = false := by cases h : isThere a 0 with | false => rfl | true => rw [h] at hc; simp at hc
    have h2 : isThere b 0 = false := by cases h : isThere b 0 with | false => rfl | true => rw [h] at hc; simp at hc
    rw [rootTree_none h1, rootTree_none h2]
    rfl
theorem above_cutted {ns : List Nd} (h : Cutted ns) (hl : ns.length ≤ 1048576) (kind : ByteArray) (h0 : 0 < ns.length) : Cutted (aboveN kind ns []) := by
  intro i nd hi k hk
  have hlen : (aboveN kind ns []).length = ns.length + 1 := by simp [aboveN]
  rw [hlen]
  cases i with
  | zero =>
    have : nd = ⟨kind, 9, kAbove, [1]⟩ := by simpa [aboveN] using hi.symm
    subst this
    simp only [List.mem_singleton] at hk
    subst hk
    omega
  | succ i =>
    simp only [aboveN, List.getElem?_cons_succ, List.getElem?_map, Option.map_eq_some_iff] at hi
    obtain ⟨x, hx, rfl⟩ := hi
    unfold upNd at hk
    rw [flat_up _ x.kids (fun k hk => by have := h i x hx k hk; omega)] at hk
    obtain ⟨q, hq, rfl⟩ := List.mem_map.1 hk
    have := h i x hx q hq
    omega
end Go.Proofs.YtccoeajjomfmnaaDoor
