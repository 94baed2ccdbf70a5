/-
  When two errors of nodes are equal, as '==' has it.
  Conditions: not both of the kind list, which cannot be compared.
-/
import Derived.Test.YtccoeajjomfmnaaDoorForest
import Derived.Test.YtccoeajjomfmnaaDoorPlain
import Derived.LaidEql
import Derived.Stop.Asserts
namespace Go.Proofs.YtccoeajjomfmnaaDoor
open Go.RowKit Go.Lib

/-- The type of the error of a kind. -/
def tyOf : K8 → TypeId
  | .text => 119 | .value => 50 | .list => 80 | .wrap => 61 | .many => 84
  | .join => 122 | .alike => 89 | .acts => 92
theorem tyOf_ne {k k' : K8} (h : k ≠ k') : tyOf k ≠ tyOf k' := by
  intro e
  cases k <;> cases k' <;> first | exact h rfl | exact absurd e (by decide)
theorem errBy_ty (k : K8) (i : Nat) (key : Int) (b : Nat) (sv : Value) : ∃ u, errBy k i key b sv = .iface (tyOf k) u := by cases k <;> exact ⟨_, rfl⟩

theorem eql_types {k k' : K8} (i i' : Nat) (key key' : Int) (b b' : Nat) (sv sv' : Value) (w : World) (h : k ≠ k') :
    (binOp .eql 54 (errBy k i key b sv) (errBy k' i' key' b' sv')).run Tryd.prog w = .ok (.bool false) w := by
  obtain ⟨u, e⟩ := errBy_ty k i key b sv
  obtain ⟨u', e'⟩ := errBy_ty k' i' key' b' sv'
  rw [e, e']
  exact run_eql_iface_types _ _ _ _ Tryd.underlying54 (tyOf_ne h) w

theorem valueComp : (Tryd.prog.info? 50).map (·.comparable) = some true := by kernel_rfl
theorem eql_value (a b : Int) (w : World) :
    (binOp .eql 54 (.iface 50 (.agg #[.int .i64 a])) (.iface 50 (.agg #[.int .i64 b]))).run Tryd.prog w = .ok (.bool (a == b)) w := by
  obtain ⟨i, hi, hc⟩ := Option.map_eq_some_iff.1 valueComp
  have hp : ∀ (x : Int) (W : World), (part 3 #[.int .i64 x] 0).run Tryd.prog W = .ok (.int .i64 x) W := fun _ _ => by kernel_rfl
  have h : ∀ d : Nat, (Op.equalIn (d + 3) 54 (.iface 50 (.agg #[.int .i64 a])) (.iface 50 (.agg #[.int .i64 b]))).run Tryd.prog w = .ok (a == b) w := fun d => by
    simp [Op.equalIn, run_underlying Tryd.underlying54, run_underlying Tryd.underlying50, typeInfo, hi, hc]
    simp [hp]
    by_cases e : a = b <;> simp [e]
  simp only [binOp]
  simp [Op.equal, Op.maxDepth, h 9997]

/-- A kind whose errors are pointers. -/
def isPtr : K8 → Bool
  | .value => false | .list => false | _ => true

/-- What is known of a pointer's type and of what it points to. -/
def PtrTy (tp te : TypeId) : Prop := Tryd.prog.underlying tp = some (.pointer te) ∧ (∃ i, Tryd.prog.info? tp = some i ∧ i.comparable = true) ∧ ∃ j, Tryd.prog.info? te = some j ∧ j.size ≠ 0
theorem PtrTy.mk {tp te : TypeId} {n : Nat} (hu : Tryd.prog.underlying tp = some (.pointer te)) (h1 : (Tryd.prog.info? tp).map (·.comparable) = some true) (h2 : (Tryd.prog.info? te).map (·.size) = some (n + 1)) : PtrTy tp te := by
  obtain ⟨i, hi, hc⟩ := Option.map_eq_some_iff.1 h1
  obtain ⟨j, hj, hs⟩ := Option.map_eq_some_iff.1 h2
  exact ⟨hu, ⟨i, hi, hc⟩, j, hj, by omega⟩

theorem ptr_text : PtrTy 119 121 := PtrTy.mk (n := 0) Tryd.underlying119 (by kernel_rfl) (by kernel_rfl)

theorem ptr_wrap : PtrTy 61 83 := PtrTy.mk (n := 1) Tryd.underlying61 (by kernel_rfl) (by kernel_rfl)

theorem ptr_many : PtrTy 84 87 := PtrTy.mk (n := 1) Tryd.underlying84 (by kernel_rfl) (by kernel_rfl)

theorem ptr_join : PtrTy 122 124 := PtrTy.mk (n := 0) Tryd.underlying122 (by kernel_rfl) (by kernel_rfl)

theorem ptr_alike : PtrTy 89 91 := PtrTy.mk (n := 1) Tryd.underlying89 (by kernel_rfl) (by kernel_rfl)

theorem ptr_acts : PtrTy 92 93 := PtrTy.mk (n := 1) Tryd.underlying92 (by kernel_rfl) (by kernel_rfl)

theorem eql_ptr_same {tp te : TypeId} (h : PtrTy tp te) (a : Addr) (w : World) : (binOp .eql 54 (.iface tp (.pointer (some a))) (.iface tp (.pointer (some a)))).run Tryd.prog w = .ok (.bool true) w := by
  obtain ⟨h1, ⟨i, h2, h3⟩, j, h4, _⟩ := h
  exact run_eql_iface_ptr_same w a Tryd.underlying54 h1 h2 h3 h4
theorem eql_ptr_other {tp te : TypeId} (h : PtrTy tp te) {a b : Addr} {ca cb : Array Value} {ta tb : TypeId} (w : World) (hne : a ≠ b) (ha : w.heap[a.block]? = some (.cells ca ta (0, 0))) (hb : w.heap[b.block]? = some (.cells cb tb (0, 0))) :
    (binOp .eql 54 (.iface tp (.pointer (some a))) (.iface tp (.pointer (some b)))).run Tryd.prog w = .ok (.bool false) w := by
  obtain ⟨h1, ⟨i, h2, h3⟩, j, h4, h5⟩ := h
  exact run_eql_iface_ptr_other w Tryd.underlying54 h1 h2 h3 h4 h5 hne ha hb

/-- Whether two nodes are equal as errors. -/
def eqNode (ns : List Nd) (i j : Nat) : Bool :=
  decide (i = j) || match ns[i]?, ns[j]? with
    | some a, some b => decide (a.kind = kValue ∧ b.kind = kValue ∧ a.key = b.key)
    | _, _ => false

theorem kind_word_eq {s : ByteArray} {k : K8} (h : kindOf s = some k) : (s = kValue) ↔ k = .value := by
  constructor
  · intro e
    subst e
    have : kindOf kValue = some .value := by decide
    rw [this] at h
    injection h with h
    exact h.symm
  · intro e
    subst e
    exact word_of_kind h

theorem eql_node {w : World} {ns : List Nd} {adr : Nat → Nat} {sl : Nat → Value} {base : Nat} (L : Lies w ns adr sl base 0) {i j : Nat} {a b : Nd} {k k' : K8} (hi : isThere ns i = true) (hj : isThere ns j = true)
    (ha : ns[i]? = some a) (hb : ns[j]? = some b) (hk : kindOf a.kind = some k) (hk' : kindOf b.kind = some k') (hl : k ≠ .list ∨ k' ≠ .list) :
    (binOp .eql 54 (valOf ns adr sl i) (valOf ns adr sl j)).run Tryd.prog w = .ok (.bool (eqNode ns i j)) w := by
  rw [valOf_there hi ha hk, valOf_there hj hb hk']
  have he : eqNode ns i j = (decide (i = j) || decide (k = .value ∧ k' = .value ∧ a.key = b.key)) := by
    unfold eqNode
    rw [ha, hb]
    simp only [kind_word_eq hk, kind_word_eq hk']
  rw [he]
  by_cases hne : k = k'
  · subst hne
    have hmi := L.mem i a k (Nat.zero_le _) ha hi hk
    have hmj := L.mem j b k (Nat.zero_le _) hb hj hk'
    have hadr : i ≠ j → (⟨adr i, 0, none⟩ : Addr) ≠ ⟨adr j, 0, none⟩ := by
      intro hij e
      injection e with e
      rcases Nat.lt_or_gt_of_ne hij with h | h
      · have := L.ord i j (Nat.zero_le _) h (isThere_lt hj); omega
      · have := L.ord j i (Nat.zero_le _) h (isThere_lt hi); omega
    by_cases hij : i = j
    · subst hij
      rw [ha] at hb
      injection hb with hb
      subst hb
      cases k
      case list => rcases hl with h | h <;> exact absurd rfl h
      case value => rw [show (decide (i = i) || decide (K8.value = .value ∧ K8.value = .value ∧ a.key = a.key)) = (a.key == a.key) by simp]; exact eql_value a.key a.key w
      case text => simp only [decide_true, Bool.true_or]; exact eql_ptr_same ptr_text _ w
      case wrap => simp only [decide_true, Bool.true_or]; exact eql_ptr_same ptr_wrap _ w
      case many => simp only [decide_true, Bool.true_or]; exact eql_ptr_same ptr_many _ w
      case join => simp only [decide_true, Bool.true_or]; exact eql_ptr_same ptr_join _ w
      case alike => simp only [decide_true, Bool.true_or]; exact eql_ptr_same ptr_alike _ w
      case acts => simp only [decide_true, Bool.true_or]; exact eql_ptr_same ptr_acts _ w
    · cases k
      case list => rcases hl with h | h <;> exact absurd rfl h
      case value =>
        rw [show (decide (i = j) || decide (K8.value = .value ∧ K8.value = .value ∧ a.key = b.key)) = (a.key == b.key) by
          rw [decide_eq_false hij, Bool.false_or]
          by_cases e : a.key = b.key
          · rw [decide_eq_true ⟨rfl, rfl, e⟩, e]; simp
          · rw [decide_eq_false (fun h => e h.2.2)]; simp [e]]
        exact eql_value a.key b.key w
      case text => rw [decide_eq_false hij, decide_eq_false (fun h => by cases h.1)]; exact eql_ptr_other ptr_text w (hadr hij) hmi hmj
      case wrap => rw [decide_eq_false hij, decide_eq_false (fun h => by cases h.1)]; exact eql_ptr_other ptr_wrap w (hadr hij) hmi hmj
      case many => rw [decide_eq_false hij, decide_eq_false (fun h => by cases h.1)]; exact eql_ptr_other ptr_many w (hadr hij) hmi hmj
      case join => rw [decide_eq_false hij, decide_eq_false (fun h => by cases h.1)]; exact eql_ptr_other ptr_join w (hadr hij) hmi hmj
      case alike => rw [decide_eq_false hij, decide_eq_false (fun h => by cases h.1)]; exact eql_ptr_other ptr_alike w (hadr hij) hmi hmj
      case acts => rw [decide_eq_false hij, decide_eq_false (fun h => by cases h.1)]; exact eql_ptr_other ptr_acts w (hadr hij) hmi hmj
  · have hij : i ≠ j := by
      intro e
      subst e
      rw [ha] at hb
      injection hb with hb
      subst hb
      rw [hk] at hk'
      injection hk' with hk'
      exact hne hk'
    rw [decide_eq_false hij, decide_eq_false (fun h => hne (h.1.trans h.2.1.symm))]
    exact eql_types _ _ _ _ _ _ _ _ w hne

theorem eql_key {w : World} {ns : List Nd} {adr : Nat → Nat} {sl : Nat → Value} {i : Nat} {a : Nd} {k : K8} (key : Int) (hi : isThere ns i = true) (ha : ns[i]? = some a) (hk : kindOf a.kind = some k) :
    (binOp .eql 54 (valOf ns adr sl i) (.iface 50 (.agg #[.int .i64 key]))).run Tryd.prog w = .ok (.bool (decide (k = .value ∧ a.key = key))) w := by
  rw [valOf_there hi ha hk]
  by_cases h : k = .value
  · subst h
    rw [show decide (K8.value = .value ∧ a.key = key) = (a.key == key) by
      by_cases e : a.key = key
      · rw [decide_eq_true ⟨rfl, e⟩, e]; simp
      · rw [decide_eq_false (fun h => e h.2)]; simp [e]]
    exact eql_value a.key key w
  · rw [decide_eq_false (fun e => h e.1)]
    exact eql_types (k' := .value) i 0 a.key key (adr i) 0 (sl i) .nilIface w h
end Go.Proofs.YtccoeajjomfmnaaDoor
