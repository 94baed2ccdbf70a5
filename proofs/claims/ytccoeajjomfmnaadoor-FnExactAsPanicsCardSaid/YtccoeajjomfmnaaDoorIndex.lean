/-
  The contract of the thin package's index: the least index of an error that is equal to one.
  Conditions: at most 2^36 nodes.
-/
import Derived.Test.YtccoeajjomfmnaaDoorMeth
namespace Go.Proofs.YtccoeajjomfmnaaDoor
open Go.RowKit Go.Lib

/-- Whether a node is the value with a key. -/
def valB (ns : List Nd) (key : Int) (i : Nat) : Bool := match ns[i]? with | none => false | some nd => decide (nd.kind = kValue ∧ nd.key = key)
theorem firstVal_eq (ns : List Nd) (key : Int) : firstVal ns key = (List.range ns.length).find? (valB ns key) := by
  unfold firstVal
  congr 1
  funext i
  unfold isKind valB
  cases ns[i]? with
  | none => rfl
  | some nd => by_cases h1 : nd.kind = kValue <;> by_cases h2 : nd.key = key <;> simp [h1, h2]

theorem firstVal_spec {ns : List Nd} {j : Nat} {nd : Nd} (hn : ns[j]? = some nd) (hk : nd.kind = kValue) :
    ∃ m x, firstVal ns nd.key = some m ∧ m ≤ j ∧ ns[m]? = some x ∧ x.kind = kValue ∧ x.key = nd.key ∧ ∀ i y, i < m → ns[i]? = some y → ¬ (y.kind = kValue ∧ y.key = nd.key) := by
  have hj := lt_of_get hn
  have hsat : ∀ (i : Nat) (y : Nd), ns[i]? = some y → valB ns nd.key i = decide (y.kind = kValue ∧ y.key = nd.key) := by
    intro i y hy
    unfold valB
    rw [hy]
  rw [firstVal_eq]
  cases hf : (List.range ns.length).find? (valB ns nd.key) with
  | none =>
    have := List.find?_eq_none.1 hf j (by simpa using hj)
    rw [hsat j nd hn] at this
    simp [hk] at this
  | some m =>
    have hp := List.find?_some hf
    have hmem := List.mem_of_find?_eq_some hf
    have hm : m < ns.length := by simpa using hmem
    have hgm : ns[m]? = some ns[m] := List.getElem?_eq_getElem hm
    rw [hsat m _ hgm] at hp
    have hp := of_decide_eq_true hp
    have hfirst : ∀ i y, i < m → ns[i]? = some y → ¬ (y.kind = kValue ∧ y.key = nd.key) := by
      intro i y hi hy hc
      obtain ⟨_, l1, l2, hsplit, hnot⟩ := List.find?_eq_some_iff_append.1 hf
      have hlen : l1.length = m := by
        have h1 : (List.range ns.length)[l1.length]? = some m := by rw [hsplit]; simp
        have h2 : l1.length < ns.length := by
          have := congrArg List.length hsplit
          simp at this
          omega
        rw [List.getElem?_range h2] at h1
        injection h1
      have hia : i ∈ l1 := by
        have h1 : l1[i]? = some i := by
          have h2 : (List.range ns.length)[i]? = some i := List.getElem?_range (by omega)
          rw [hsplit, List.getElem?_append_left (by omega)] at h2
          exact h2
        exact List.mem_of_getElem? h1
      have := hnot i hia
      rw [hsat i y hy] at this
      simp [hc] at this
    refine ⟨m, ns[m], rfl, ?_, hgm, hp.1, hp.2, hfirst⟩
    rcases Nat.lt_or_ge j m with h | h
    · exact absurd ⟨hk, rfl⟩ (hfirst j nd h hn)
    · exact h

/-- The least index is the first that is equal. -/
theorem leastOf_spec {ns : List Nd} {j : Nat} {nd : Nd} {k : K8} (hj : isThere ns j = true) (hn : ns[j]? = some nd) (hk : kindOf nd.kind = some k) (hl : k ≠ .list) :
    leastOf ns j ≤ j ∧ isThere ns (leastOf ns j) = true ∧ eqNode ns (leastOf ns j) j = true ∧ (∃ x q, ns[leastOf ns j]? = some x ∧ kindOf x.kind = some q ∧ q ≠ .list) ∧ ∀ i, i < leastOf ns j → eqNode ns i j = false := by
  unfold leastOf
  rw [hn]
  simp only
  by_cases hv : nd.kind = kValue
  · obtain ⟨m, x, hf, hmj, hx, hxk, hxkey, hfirst⟩ := firstVal_spec hn hv
    rw [if_pos hv, hf, Option.getD_some]
    have hkx : kindOf x.kind = some .value := by rw [hxk]; decide
    have hth : isThere ns m = true := by
      rw [isThere_eq ns m x hx, hkx]
    refine ⟨hmj, hth, ?_, ⟨x, .value, hx, hkx, by decide⟩, fun i hi => ?_⟩
    · unfold eqNode
      rw [hx, hn]
      simp [hxk, hxkey, hv]
    · unfold eqNode
      rw [hn]
      have hij : ¬ i = j := by omega
      cases hy : ns[i]? with
      | none => simp [hij]
      | some y =>
        have := hfirst i y hi hy
        simp only [hij, decide_false, Bool.false_or]
        exact decide_eq_false (fun h => this ⟨h.1, h.2.2⟩)
  · rw [if_neg hv]
    refine ⟨Nat.le_refl _, hj, by simp [eqNode], ⟨nd, k, hn, hk, hl⟩, fun i hi => ?_⟩
    unfold eqNode
    rw [hn]
    have hij : ¬ i = j := by omega
    cases ns[i]? with
    | none => simp [hij]
    | some y =>
      simp only [hij, decide_false, Bool.false_or]
      exact decide_eq_false (fun h => hv h.2.1)

theorem listZero : (Tryd.prog.info? 80).map (·.zero) = some (some (.agg #[.int .i64 0, .slice none 0 0])) := by kernel_rfl
theorem asList_same (v : Value) (xT : TypeId) (w : World) : (Instr.typeAssert (.iface 80 v) xT 80 true).run Tryd.prog w = .ok (.tuple #[v, .bool true]) w := by
  simp [Instr.typeAssert, run_underlying Tryd.underlying80]
theorem asList_other (t : TypeId) (v : Value) (xT : TypeId) (ht : t ≠ 80) (w : World) : (Instr.typeAssert (.iface t v) xT 80 true).run Tryd.prog w = .ok (.tuple #[.agg #[.int .i64 0, .slice none 0 0], .bool false]) w := by
  obtain ⟨i, hi, hz⟩ := Option.map_eq_some_iff.1 listZero
  simp [Instr.typeAssert, run_underlying Tryd.underlying80, ht, zeroValue, typeInfo, hi, hz]
theorem asList_nil (xT : TypeId) (w : World) : (Instr.typeAssert .nilIface xT 80 true).run Tryd.prog w = .ok (.tuple #[.agg #[.int .i64 0, .slice none 0 0], .bool false]) w := by
  obtain ⟨i, hi, hz⟩ := Option.map_eq_some_iff.1 listZero
  simp [Instr.typeAssert, run_underlying Tryd.underlying80, zeroValue, typeInfo, hi, hz]

theorem index_nil (tv : Value) (w : World) : Calls Tryd.prog 28 #[tv, .nilIface] w fun e w' => e = .returned (.int .i64 (-1)) ∧ w = w' := by
  go_enter Tryd.func28, Tryd.ntmps28
  go_wp2
  go_ret
  exact ⟨rfl, rfl⟩

set_option maxRecDepth 100000 in
set_option maxHeartbeats 2000000 in
theorem index_list (tv : Value) (i : Nat) (sv : Value) (h : ∃ c, sv = .slice (some ⟨c, 0, none⟩) 1 1) (w : World) : Calls Tryd.prog 28 #[tv, .iface 80 (.agg #[.int .i64 (i : Int), sv])] w fun e w' => e = .returned (.int .i64 (i : Int)) ∧ Below w.heap.size w w' := by
  obtain ⟨c, rfl⟩ := h
  have hT := asList_same
  go_enter Tryd.func28, Tryd.ntmps28
  go_wp2
  go_ret
  exact ⟨rfl, below_alloc _ _⟩

set_option maxRecDepth 100000 in
set_option maxHeartbeats 4000000 in
theorem index_other {ns : List Nd} {adr : Nat → Nat} {sl : Nat → Value} {base j : Nat} {nd : Nd} {k : K8} (tv : Value) (w : World) (hv : Vals w tv ((List.range ns.length).map (valOf ns adr sl))) (L : Lies w ns adr sl base 0) (hj : isThere ns j = true) (hn : ns[j]? = some nd) (hk : kindOf nd.kind = some k) (hl : k ≠ .list) (hlen : ns.length ≤ 68719476736) :
    Calls Tryd.prog 28 #[tv, valOf ns adr sl j] w fun e w' => e = .returned (.int .i64 (leastOf ns j : Nat)) ∧ Below w.heap.size w w' := by
  obtain ⟨A, cap, rfl, _, _⟩ := hv.form
  simp only [List.length_map, List.length_range] at *
  obtain ⟨u, eu⟩ := errBy_ty k j nd.key (adr j) (sl j)
  have hval : valOf ns adr sl j = .iface (tyOf k) u := by rw [valOf_there hj hn hk, eu]
  have hTj := asList_other (tyOf k) u 54 (tyOf_ne (k' := .list) hl)
  have HS := Lib.hid (leastOf_spec hj hn hk hl)
  have heq : ∀ (W : World) (i : Nat) (a : Nd) (q : K8), Below w.heap.size w W → isThere ns i = true → ns[i]? = some a → kindOf a.kind = some q → (binOp .eql 54 (valOf ns adr sl i) (.iface (tyOf k) u)).run Tryd.prog W = .ok (.bool (eqNode ns i j)) W := by
    intro W i a q hW hi ha hq
    have := eql_node (L.keep hW) hi hj ha hn hq hk (.inr hl)
    rw [hval] at this
    exact this
  have HE := Lib.hid heq
  have HLL := Lib.hid (show ∀ (i : Nat) (a : Nd), isThere ns i = true → ns[i]? = some a → kindOf a.kind = some .list → ∃ c, sl i = .slice (some ⟨c, 0, none⟩) 1 1 from fun i a hi ha hq => L.mem i a .list (Nat.zero_le _) ha hi hq)
  have HV := Lib.hid hv
  rw [hval]
  have hml : leastOf ns j < ns.length := Nat.lt_of_le_of_lt HS.out.1 (isThere_lt hj)
  clear hv L hj hn hk hl eu hval heq
  generalize hm : leastOf ns j = m at *
  clear hm
  generalize tyOf k = tk at *
  go_enter Tryd.func28, Tryd.ntmps28
  go_wp2_with fail
  go_loopw [23] (fun v23 wr => ∃ c : Nat, c ≤ m ∧ v23 = .int .i64 c ∧ Below w.heap.size w wr) (fun v23 _ => ns.length - (intOf v23).toNat)
  case atStart => exact ⟨0, Nat.zero_le _, rfl, below_alloc _ _⟩
  case round =>
    obtain ⟨c, hc, rfl, hbel⟩ := hrel
    have hcl : c < ns.length := by omega
    have hs1 := hbel.size
    obtain ⟨b, off, rfl, c0⟩ := (Vals.keep HV.out hbel).at (k := c) (x := valOf ns adr sl c) (by simp [hcl])
    have hst : ∀ v, Below w.heap.size w (wr.alloc v) := fun v => hbel.alloc hs1 _
    cases hth : isThere ns c with
    | false =>
      rw [valOf_not hth] at c0
      have hne : c < m := by
        rcases Nat.lt_or_ge c m with h | h
        · exact h
        · obtain rfl : c = m := by omega
          rw [HS.out.2.1] at hth
          cases hth
      have hTc := asList_nil
      have hq : ∀ W, (binOp .eql 54 .nilIface (.iface tk u)).run Tryd.prog W = .ok (.bool false) W := fun W => run_eql_iface_nil_left W tk u Tryd.underlying54
      clear hth
      go_wp2_with fail
      go_roundw
      case rel => exact ⟨c + 1, hne, by go_num, hst _⟩
      case measure => simp [intOf]; omega
    | true =>
      obtain ⟨a, q, ha, hq⟩ := isThere_kind hth
      obtain ⟨uc, euc⟩ := errBy_ty q c a.key (adr c) (sl c)
      have hvc : valOf ns adr sl c = .iface (tyOf q) uc := by rw [valOf_there hth ha hq, euc]
      have hqe : ∀ W, Below w.heap.size w W → (binOp .eql 54 (.iface (tyOf q) uc) (.iface tk u)).run Tryd.prog W = .ok (.bool (eqNode ns c j)) W := fun W hW => by
        have := HE.out W c a q hW hth ha hq
        rw [hvc] at this
        exact this
      rw [hvc] at c0
      by_cases hql : q = .list
      · subst hql
        have hne : c < m := by
          rcases Nat.lt_or_ge c m with h | h
          · exact h
          · obtain rfl : c = m := by omega
            obtain ⟨x, q', hx, hq', hne'⟩ := HS.out.2.2.2.1
            rw [ha] at hx
            injection hx with hx
            subst hx
            rw [hq] at hq'
            injection hq' with hq'
            exact absurd hq'.symm hne'
        obtain ⟨cc, hsl⟩ := HLL.out c a hth ha hq
        have hE : errBy K8.list c a.key (adr c) (sl c) = .iface (tyOf .list) (.agg #[.int .i64 (c : Int), .slice (some ⟨cc, 0, none⟩) 1 1]) := by rw [hsl]; rfl
        rw [hE] at euc
        injection euc with _ euc
        subst euc
        have hTc := asList_same
        simp only [tyOf] at c0
        clear hqe hth ha hq hvc hE hsl
        go_wp2_with fail
        go_roundw
        case rel => exact ⟨c + 1, hne, by go_num, hst _⟩
        case measure => simp [intOf]; omega
      · have hTc := asList_other (tyOf q) uc 54 (tyOf_ne (k' := .list) hql)
        generalize tyOf q = tq at *
        by_cases hcm : c = m
        · subst hcm
          have hE := HS.out.2.2.1
          have hqe2 : ∀ v, (binOp .eql 54 (.iface tq uc) (.iface tk u)).run Tryd.prog (wr.alloc v) = .ok (.bool true) (wr.alloc v) := fun v => by have := hqe _ (hst v); rw [hE] at this; exact this
          clear hqe hth ha hq hvc euc hE
          go_wp2_with fail
          go_ret
          exact ⟨rfl, hst _⟩
        · have hne : c < m := by omega
          have hE := HS.out.2.2.2.2 c hne
          have hqe2 : ∀ v, (binOp .eql 54 (.iface tq uc) (.iface tk u)).run Tryd.prog (wr.alloc v) = .ok (.bool false) (wr.alloc v) := fun v => by have := hqe _ (hst v); rw [hE] at this; exact this
          clear hqe hth ha hq hvc euc hE hcm
          go_wp2_with fail
          go_roundw
          case rel => exact ⟨c + 1, hne, by go_num, hst _⟩
          case measure => simp [intOf]; omega
end Go.Proofs.YtccoeajjomfmnaaDoor
