/-
  The errors of nodes in memory: the value of each, and where it lies.
  Conditions: none.
-/
import Derived.Test.YtccoeajjomfmnaaDoorTree
import Derived.Test.YtccoeajjomfmnaaDoorImpl
namespace Go.Proofs.YtccoeajjomfmnaaDoor
open Go.RowKit Go.Lib

/-- The error of a kind: i its index, b its block, sv its slice. -/
def errBy (k : K8) (i : Nat) (key : Int) (b : Nat) (sv : Value) : Value :=
  match k with
  | .text => .iface 119 (.pointer (some ⟨b, 0, none⟩))
  | .value => .iface 50 (.agg #[.int .i64 key])
  | .list => .iface 80 (.agg #[.int .i64 i, sv])
  | .wrap => .iface 61 (.pointer (some ⟨b, 0, none⟩))
  | .many => .iface 84 (.pointer (some ⟨b, 0, none⟩))
  | .join => .iface 122 (.pointer (some ⟨b, 0, none⟩))
  | .alike => .iface 89 (.pointer (some ⟨b, 0, none⟩))
  | .acts => .iface 92 (.pointer (some ⟨b, 0, none⟩))

/-- The error of a node, or nil. -/
def valOf (ns : List Nd) (adr : Nat → Nat) (sl : Nat → Value) (i : Nat) : Value :=
  if isThere ns i then
    match ns[i]? with
    | none => .nilIface
    | some nd => match kindOf nd.kind with
      | none => .nilIface
      | some k => errBy k i nd.key (adr i) (sl i)
  else .nilIface

theorem valOf_there {ns : List Nd} {adr : Nat → Nat} {sl : Nat → Value} {i : Nat} {nd : Nd} {k : K8} (h : isThere ns i = true) (hn : ns[i]? = some nd) (hk : kindOf nd.kind = some k) : valOf ns adr sl i = errBy k i nd.key (adr i) (sl i) := by
  unfold valOf
  rw [if_pos h, hn]
  simp only [hk]
theorem valOf_not {ns : List Nd} {adr : Nat → Nat} {sl : Nat → Value} {i : Nat} (h : isThere ns i = false) : valOf ns adr sl i = .nilIface := by
  unfold valOf
  rw [if_neg (by rw [h]; simp)]
theorem errBy_iface (k : K8) (i : Nat) (key : Int) (b : Nat) (sv : Value) : ∃ t u, errBy k i key b sv = .iface t u := by cases k <;> exact ⟨_, _, rfl⟩
theorem valOf_isErr (ns : List Nd) (adr : Nat → Nat) (sl : Nat → Value) (i : Nat) : IsErr (valOf ns adr sl i) := by
  cases h : isThere ns i with
  | false => exact .inl (valOf_not h)
  | true =>
    obtain ⟨nd, k, hn, hk⟩ := isThere_kind h
    rw [valOf_there h hn hk]
    exact .inr (errBy_iface _ _ _ _ _)
theorem valOf_nilB (ns : List Nd) (adr : Nat → Nat) (sl : Nat → Value) (i : Nat) : nilB (valOf ns adr sl i) = !isThere ns i := by
  cases h : isThere ns i with
  | false => rw [valOf_not h]; rfl
  | true =>
    obtain ⟨nd, k, hn, hk⟩ := isThere_kind h
    rw [valOf_there h hn hk]
    obtain ⟨t, u, e⟩ := errBy_iface k i nd.key (adr i) (sl i)
    rw [e]; rfl
theorem valOf_congr {ns : List Nd} {adr adr' : Nat → Nat} {sl sl' : Nat → Value} {i : Nat} (h1 : adr i = adr' i) (h2 : sl i = sl' i) : valOf ns adr sl i = valOf ns adr' sl' i := by
  unfold valOf
  rw [h1, h2]

/-- The error that a node with one wraps, or nil. -/
def kidVal (ns : List Nd) (adr : Nat → Nat) (sl : Nat → Value) (i : Nat) : Value := ((kidsOf ns i).head?.map (valOf ns adr sl)).getD .nilIface

/-- What lies in the block of an error of a kind. -/
def blkBy (w : World) (k : K8) (nd : Nd) (b : Nat) (kid sv : Value) : Prop :=
  match k with
  | .text => w.heap[b]? = some (.cells #[.string nd.text] 121 (0, 0))
  | .wrap => w.heap[b]? = some (.cells #[.string nd.text, kid] 83 (0, 0))
  | .many => w.heap[b]? = some (.cells #[.string nd.text, sv] 87 (0, 0))
  | .join => w.heap[b]? = some (.cells #[sv] 124 (0, 0))
  | .alike => w.heap[b]? = some (.cells #[.int .i64 nd.key, kid] 91 (0, 0))
  | .acts => w.heap[b]? = some (.cells #[.int .i64 nd.key, kid] 93 (0, 0))
  | .value => True
  | .list => ∃ c, sv = .slice (some ⟨c, 0, none⟩) 1 1

theorem blkBy_kept {w w' : World} {k : K8} {nd : Nd} {b : Nat} {kid sv : Value} (h : blkBy w k nd b kid sv) (hb : w'.heap[b]? = w.heap[b]?) : blkBy w' k nd b kid sv := by
  cases k <;> simp only [blkBy] at h ⊢ <;> first | exact hb.trans h | exact h

/-- The errors of the nodes from m on lie in w. -/
structure Lies (w : World) (ns : List Nd) (adr : Nat → Nat) (sl : Nat → Value) (base m : Nat) : Prop where
  mem : ∀ i nd k, m ≤ i → ns[i]? = some nd → isThere ns i = true → kindOf nd.kind = some k → blkBy w k nd (adr i) (kidVal ns adr sl i) (sl i)
  row : ∀ i nd k, m ≤ i → ns[i]? = some nd → isThere ns i = true → kindOf nd.kind = some k → (k = .many ∨ k = .join) → w.ownsRow base 54 1 (sl i) (kidsOf ns i).length ((kidsOf ns i).map (valOf ns adr sl))
  ord : ∀ i j, m ≤ i → i < j → j < ns.length → adr j < adr i
  lt : ∀ i, m ≤ i → i < ns.length → base ≤ adr i ∧ adr i < w.heap.size

theorem Lies.keep {w w' : World} {ns : List Nd} {adr : Nat → Nat} {sl : Nat → Value} {base m : Nat} (h : Lies w ns adr sl base m) (hb : Below w.heap.size w w') : Lies w' ns adr sl base m where
  mem i nd k h1 h2 h3 h4 := blkBy_kept (h.mem i nd k h1 h2 h3 h4) (hb.block _ (h.lt i h1 (isThere_lt h3)).2)
  row i nd k h1 h2 h3 h4 h5 := own_below (h.row i nd k h1 h2 h3 h4 h5) hb
  ord := h.ord
  lt i h1 h2 := ⟨(h.lt i h1 h2).1, Nat.lt_of_lt_of_le (h.lt i h1 h2).2 hb.size⟩

/-- A function with another value at one place. -/
def upd {α : Type} (f : Nat → α) (i : Nat) (x : α) : Nat → α := fun j => if j = i then x else f j
theorem upd_same {α : Type} (f : Nat → α) (i : Nat) (x : α) : upd f i x i = x := by simp [upd]
theorem upd_other {α : Type} (f : Nat → α) (i : Nat) (x : α) {j : Nat} (h : j ≠ i) : upd f i x j = f j := by simp [upd, h]

theorem valOf_upd {ns : List Nd} {adr : Nat → Nat} {sl : Nat → Value} {i j : Nat} (b : Nat) (sv : Value) (h : j ≠ i) : valOf ns (upd adr i b) (upd sl i sv) j = valOf ns adr sl j :=
  valOf_congr (upd_other _ _ _ h) (upd_other _ _ _ h)
theorem kidVals_upd {ns : List Nd} {adr : Nat → Nat} {sl : Nat → Value} {i j : Nat} (b : Nat) (sv : Value) (h : i ≤ j) : (kidsOf ns j).map (valOf ns (upd adr i b) (upd sl i sv)) = (kidsOf ns j).map (valOf ns adr sl) :=
  List.map_congr_left fun k hk => valOf_upd b sv (by have := kidsOf_mem hk; omega)
theorem kidVal_upd {ns : List Nd} {adr : Nat → Nat} {sl : Nat → Value} {i j : Nat} (b : Nat) (sv : Value) (h : i ≤ j) : kidVal ns (upd adr i b) (upd sl i sv) j = kidVal ns adr sl j := by
  have e := kidVals_upd (ns := ns) (adr := adr) (sl := sl) b sv h
  unfold kidVal
  cases hk : kidsOf ns j with
  | nil => rfl
  | cons a r =>
    rw [hk] at e
    simp only [List.map_cons, List.cons.injEq] at e
    simp [e.1]

/-- One node more. -/
theorem Lies.step {w w' : World} {ns : List Nd} {adr : Nat → Nat} {sl : Nat → Value} {base m g0 b : Nat} {sv : Value} {nd : Nd} (h : Lies w ns adr sl base (m + 1)) (hn : ns[m]? = some nd)
    (hg : w.grownBy w' (some g0)) (hg0 : g0 < base) (hb : base ≤ b) (hb1 : w.heap.size ≤ b) (hb2 : b < w'.heap.size)
    (hm : ∀ k, isThere ns m = true → kindOf nd.kind = some k → blkBy w' k nd b (kidVal ns adr sl m) sv)
    (hr : ∀ k, isThere ns m = true → kindOf nd.kind = some k → (k = .many ∨ k = .join) → w'.ownsRow base 54 1 sv (kidsOf ns m).length ((kidsOf ns m).map (valOf ns adr sl))) :
    Lies w' ns (upd adr m b) (upd sl m sv) base m where
  mem i nd' k h1 h2 h3 h4 := by
    rw [kidVal_upd b sv h1]
    by_cases hi : i = m
    · subst hi
      rw [hn] at h2
      injection h2 with h2
      subst h2
      rw [upd_same, upd_same]
      exact hm k h3 h4
    · rw [upd_other _ _ _ hi, upd_other _ _ _ hi]
      have hlt := h.lt i (by omega) (isThere_lt h3)
      exact blkBy_kept (h.mem i nd' k (by omega) h2 h3 h4) (hg.block _ hlt.2 (fun e => by injection e with e; omega))
  row i nd' k h1 h2 h3 h4 h5 := by
    rw [kidVals_upd b sv h1]
    by_cases hi : i = m
    · subst hi
      rw [hn] at h2
      injection h2 with h2
      subst h2
      rw [upd_same]
      exact hr k h3 h4 h5
    · rw [upd_other _ _ _ hi]
      have hrow := h.row i nd' k (by omega) h2 h3 h4 h5
      refine hrow.kept hg ?_
      cases hv : (sl i).ownBlock with
      | none => exact .inl rfl
      | some c =>
        have := hrow.lt c hv
        exact .inr (fun e => by injection e with e; omega)
  ord i j h1 h2 h3 := by
    by_cases hi : i = m
    · subst hi
      rw [upd_same, upd_other _ _ _ (by omega)]
      have := h.lt j (by omega) h3
      omega
    · rw [upd_other _ _ _ hi, upd_other _ _ _ (by omega)]
      exact h.ord i j (by omega) h2 h3
  lt i h1 h2 := by
    by_cases hi : i = m
    · subst hi
      rw [upd_same]
      exact ⟨hb, hb2⟩
    · rw [upd_other _ _ _ hi]
      have := h.lt i (by omega) h2
      exact ⟨this.1, Nat.lt_of_lt_of_le this.2 hg.size⟩

/-- What the slice of the tree holds while the nodes below m are still to come. -/
def partly (ns : List Nd) (adr : Nat → Nat) (sl : Nat → Value) (m : Nat) : List Value := (List.range ns.length).map fun j => if j < m then .nilIface else valOf ns adr sl j

theorem partly_length (ns : List Nd) (adr : Nat → Nat) (sl : Nat → Value) (m : Nat) : (partly ns adr sl m).length = ns.length := by simp [partly]
theorem partly_get {ns : List Nd} {adr : Nat → Nat} {sl : Nat → Value} {m j : Nat} (h : j < ns.length) : (partly ns adr sl m)[j]? = some (if j < m then .nilIface else valOf ns adr sl j) := by simp [partly, h]
theorem partly_isErr (ns : List Nd) (adr : Nat → Nat) (sl : Nat → Value) (m : Nat) : ∀ x ∈ partly ns adr sl m, IsErr x := by
  intro x hx
  simp only [partly, List.mem_map] at hx
  obtain ⟨j, _, rfl⟩ := hx
  split
  · exact .inl rfl
  · exact valOf_isErr ns adr sl j
theorem partly_all (ns : List Nd) (adr : Nat → Nat) (sl : Nat → Value) : partly ns adr sl 0 = (List.range ns.length).map (valOf ns adr sl) := by simp [partly]
theorem partly_none (ns : List Nd) (adr : Nat → Nat) (sl : Nat → Value) : partly ns adr sl ns.length = List.replicate ns.length .nilIface := by
  apply List.ext_getElem?
  intro j
  by_cases hj : j < ns.length
  · rw [partly_get hj, if_pos hj]; simp [hj]
  · rw [List.getElem?_eq_none (by rw [partly_length]; omega), List.getElem?_eq_none (by simp; omega)]
theorem partly_step {ns : List Nd} {adr : Nat → Nat} {sl : Nat → Value} {m : Nat} (b : Nat) (sv : Value) (h : m < ns.length) :
    partly ns (upd adr m b) (upd sl m sv) m = (partly ns adr sl (m + 1)).set m (valOf ns (upd adr m b) (upd sl m sv) m) := by
  apply List.ext_getElem?
  intro j
  by_cases hj : j < ns.length
  · rw [partly_get hj, List.getElem?_set]
    by_cases hjm : m = j
    · subst hjm
      simp [partly_length, h]
    · rw [if_neg hjm, partly_get hj]
      congr 1
      by_cases h1 : j < m
      · rw [if_pos h1, if_pos (by omega)]
      · rw [if_neg h1, if_neg (by omega)]
        exact valOf_upd b sv (fun e => hjm e.symm)
  · rw [List.getElem?_eq_none (by rw [partly_length]; omega), List.getElem?_eq_none (by rw [List.length_set, partly_length]; omega)]

theorem pickKid_live (ns : List Nd) (adr : Nat → Nat) (sl : Nat → Value) (m : Nat) (k : Int) :
    pickKid (partly ns adr sl (m + 1)) (m : Int) k = ((liveKid ns m k).map (valOf ns adr sl)).getD .nilIface := by
  unfold pickKid liveKid
  rw [partly_length]
  by_cases h : (m : Int) < k ∧ k < (ns.length : Int)
  · rw [if_pos h, List.getD_eq_getElem?_getD, partly_get (by omega), Option.getD_some, if_neg (by omega)]
    have hok : okKid ns.length m k = true := decide_eq_true h
    rw [hok, Bool.true_and]
    cases ht : isThere ns k.toNat with
    | false => rw [valOf_not ht]; rfl
    | true => rfl
  · have hok : okKid ns.length m k = false := decide_eq_false h
    rw [if_neg h, hok]
    rfl

/-- The list of kids as the thin package makes it. -/
theorem kids_head (ns : List Nd) (adr : Nat → Nat) (sl : Nat → Value) (m : Nat) (kids : List Int) :
    (kids.map (pickKid (partly ns adr sl (m + 1)) (m : Int))).headD .nilIface = (((kids.head?.bind (liveKid ns m)).toList).head?.map (valOf ns adr sl)).getD .nilIface := by
  cases kids with
  | nil => rfl
  | cons k r =>
    simp only [List.map_cons, List.headD_cons, List.head?_cons, Option.bind_some, pickKid_live]
    cases liveKid ns m k <;> rfl
theorem kids_there (ns : List Nd) (adr : Nat → Nat) (sl : Nat → Value) (m : Nat) (kids : List Int) :
    there (kids.map (pickKid (partly ns adr sl (m + 1)) (m : Int))) = (kids.filterMap (liveKid ns m)).map (valOf ns adr sl) := by
  induction kids with
  | nil => rfl
  | cons k r ih =>
    have e : there ((k :: r).map (pickKid (partly ns adr sl (m + 1)) (m : Int))) = there [pickKid (partly ns adr sl (m + 1)) (m : Int) k] ++ there (r.map (pickKid (partly ns adr sl (m + 1)) (m : Int))) := by
      rw [List.map_cons]
      exact List.filter_append (p := fun x => !nilB x) [_] _
    rw [e, ih, pickKid_live]
    cases hl : liveKid ns m k with
    | none => simp [there, nilB, hl]
    | some j =>
      have := (liveKid_some hl).2.2.1
      have hnil : nilB (valOf ns adr sl j) = false := by rw [valOf_nilB, this]; rfl
      simp [there, hl, hnil]
end Go.Proofs.YtccoeajjomfmnaaDoor
