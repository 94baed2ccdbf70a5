/-
  The contracts of impl.IsValue and impl.IsNode.
  Conditions: at most 2^36 nodes with at most 2^36 kids each; for IsNode the node is an error that can be compared.
-/
import Derived.Test.YtnekgmkonhclbaaIs
import Derived.Test.YtnekgmkonhclbaaMade
namespace Go.Proofs.Ytnekgmkonhclbaa
open Go.RowKit Go.Lib

/-- Which nodes are equal to the value with a key, and which say to be it. -/
def eqKey (ns : List Nd) (key : Int) (i : Nat) : Bool := match ns[i]? with | none => false | some nd => decide (nd.kind = kValue ∧ nd.key = key)
def alKey (ns : List Nd) (key : Int) (i : Nat) : Bool := match ns[i]? with | none => false | some nd => key == nd.key
theorem hit_key (ns : List Nd) (key : Int) : hitB ns (eqKey ns key) (alKey ns key) = hitVal ns key := by
  funext i
  unfold hitB eqKey alKey hitVal isKind
  cases ns[i]? with
  | none => rfl
  | some nd =>
    simp only
    by_cases h1 : nd.kind = kValue
    · have h2 : ¬ nd.kind = kAlike := by rw [h1]; decide
      by_cases h3 : nd.key = key <;> simp [h1, h3]
      exact fun h => absurd (h1 ▸ h) h2
    · by_cases h3 : nd.key = key
      · simp [h1, h3]
      · have h4 : ¬ key = nd.key := fun e => h3 e.symm
        simp [h1, h3, h4]

theorem tgt_value {w : World} {ns : List Nd} {adr : Nat → Nat} {sl : Nat → Value} {base : Nat} (L : Lies w ns adr sl base 0) (key : Int) :
    Tgt w ns adr sl (.iface 52 (.agg #[.int .i64 key])) (eqKey ns key) (alKey ns key) where
  eqv W i _ hi := by
    obtain ⟨nd, k, hn, hk⟩ := isThere_kind hi
    rw [eql_key key hi hn hk]
    unfold eqKey
    rw [hn]
    simp only [kind_word_eq hk]
  like W i nd hW hi hn hk := by
    have hm := (L.keep hW).mem i nd .alike (Nat.zero_le _) hn hi hk
    have hc := alikeIs_value (adr i) nd.key key W (cell_of_heap hm 0 rfl)
    unfold alKey
    rw [hn]
    exact hc

/-- Which nodes are equal to a pointer. -/
theorem tgt_ptr {w : World} {ns : List Nd} {adr : Nat → Nat} {sl : Nat → Value} {base j : Nat} {nd : Nd} {k : K8} (L : Lies w ns adr sl base 0) (hj : isThere ns j = true) (hn : ns[j]? = some nd) (hk : kindOf nd.kind = some k) (hp : isPtr k = true) :
    Tgt w ns adr sl (valOf ns adr sl j) (fun i => decide (i = j)) (fun _ => false) where
  eqv W i hW hi := by
    obtain ⟨a, q, ha, hq⟩ := isThere_kind hi
    rw [eql_node (L.keep hW) hi hj ha hn hq hk (.inr (by rintro rfl; cases hp))]
    unfold eqNode
    rw [ha, hn]
    have : ¬ nd.kind = kValue := by rw [kind_word_eq hk]; rintro rfl; cases hp
    simp [this]
  like W i a hW hi ha hq := by
    obtain ⟨u, e⟩ := errBy_ty k j nd.key (adr j) (sl j)
    rw [valOf_there hj hn hk, e]
    exact alikeIs_other (adr i) (tyOf k) u (by
      have : k ≠ .value := by rintro rfl; cases hp
      exact tyOf_ne this) W
theorem hit_ptr (ns : List Nd) (j : Nat) : hitB ns (fun i => decide (i = j)) (fun _ => false) = fun i => decide (i = j) := by
  funext i
  simp [hitB]

theorem atIx_val (ns : List Nd) (adr : Nat → Nat) (sl : Nat → Value) (i : Int) (hi : 0 ≤ i) : atIx ((List.range ns.length).map (valOf ns adr sl)) i = valOf ns adr sl i.toNat := by
  unfold atIx
  rw [if_pos hi, List.getD_eq_getElem?_getD]
  by_cases h : i.toNat < ns.length
  · simp [h]
  · rw [List.getElem?_eq_none (by simp; omega), valOf_not (isThere_none ns _ (by omega))]
    rfl
theorem atIx_neg (xs : List Value) (i : Int) (hi : i < 0) : atIx xs i = .nilIface := by
  unfold atIx
  rw [if_neg (by omega)]
theorem rootTree_there {ns : List Nd} (h : isThere ns 0 = true) : rootTree ns = treeOf ns 0 := by unfold rootTree; rw [if_pos h]
theorem rootTree_not {ns : List Nd} (h : isThere ns 0 = false) : rootTree ns = [] := by unfold rootTree; rw [if_neg (by rw [h]; simp)]

set_option maxHeartbeats 1000000 in
theorem implIsValue (v : Value) (ns : List Nd) (kv : Nat → Value) (key : Int) (w : World) (h : Nodes w v ns kv) (hn : ns.length ≤ 68719476736) (hk : ∀ nd ∈ ns, nd.kids.length ≤ 68719476736) :
    Calls Try.prog 26 #[v, .int .i64 key] w fun e w' => e = .returned (.bool ((rootTree ns).any (hitVal ns key))) ∧ Below w.heap.size w w' := by
  obtain ⟨A, cap, rfl, _, _⟩ := h.form
  have HM := Lib.hid (made_any _ ns kv w h hn hk)
  clear h hk
  go_enter Try.func26, Try.ntmps26
  go_wp2_with fail
  refine HM.out.mono ?_
  rintro e w1 ⟨tv, adr, sl, base, rfl, hv, hl, _, hb1⟩
  obtain ⟨TA, tc, rfl, _, _⟩ := hv.form
  simp only [List.length_map, List.length_range] at *
  have hat := at_any _ _ 0 w1 hv
  rw [atIx_val ns adr sl 0 (by omega), Int.toNat_zero] at hat
  have HA := Lib.hid hat
  have HL := Lib.hid hl
  clear hat hl hv HM
  go_wp2_with fail
  refine HA.out.mono ?_
  rintro e w2 ⟨rfl, rfl⟩
  cases hT : isThere ns 0 with
  | false =>
    rw [valOf_not hT]
    have HR := Lib.hid (rootTree_not hT)
    clear hT
    go_wp2_with fail
    refine (is_left _ _ _).mono ?_
    rintro e w3 ⟨rfl, rfl⟩
    go_wp2_with fail
    go_ret
    exact ⟨by rw [HR.out]; rfl, hb1⟩
  | true =>
    have hc := is_any HL.out (tgt_value HL.out key) ns.length 0 w1 (by omega) hT (Below.refl _ _)
    rw [hit_key, ← rootTree_there hT] at hc
    obtain ⟨t, u, hu⟩ := valOf_iface (adr := adr) (sl := sl) hT
    rw [hu] at hc ⊢
    have HC := Lib.hid (isFrom_value t u _ w1 _ hc)
    clear hc hT hu
    go_wp2_with fail
    refine HC.out.mono ?_
    rintro e w3 ⟨rfl, hb3⟩
    go_wp2_with fail
    go_ret
    exact ⟨rfl, hb1.trans (hb3.mono hb1.size)⟩

/-- Whether errors.Is finds a node. -/
def nodeHit (ns : List Nd) (j : Nat) : Bool :=
  match ns[j]? with
  | none => false
  | some nd => if nd.kind = kValue then (rootTree ns).any (hitVal ns nd.key) else (rootTree ns).any fun i => decide (i = j)

theorem isFrom_kind {k : K8} (hk : k ≠ .list) (t : TypeId) (u v : Value) (w : World) (b : Bool) (h : Calls Try.prog 49 #[.iface t u, .iface (tyOf k) v, .bool true] w fun e w' => e = .returned (.bool b) ∧ Below w.heap.size w w') :
    Calls Try.prog 38 #[.iface t u, .iface (tyOf k) v] w fun e w' => e = .returned (.bool b) ∧ Below w.heap.size w w' := by
  cases k
  case list => exact absurd rfl hk
  case text => exact isFrom_text t u v w b h
  case value => exact isFrom_value t u v w b h
  case wrap => exact isFrom_wrap t u v w b h
  case many => exact isFrom_many t u v w b h
  case join => exact isFrom_join t u v w b h
  case alike => exact isFrom_alike t u v w b h
  case acts => exact isFrom_acts t u v w b h

theorem is_node {w : World} {ns : List Nd} {adr : Nat → Nat} {sl : Nat → Value} {base j : Nat} {nd : Nd} {k : K8} (L : Lies w ns adr sl base 0) (hj : isThere ns j = true) (hn : ns[j]? = some nd) (hk : kindOf nd.kind = some k) (hl : k ≠ .list) :
    Calls Try.prog 38 #[valOf ns adr sl 0, valOf ns adr sl j] w fun e w' => e = .returned (.bool (nodeHit ns j)) ∧ Below w.heap.size w w' := by
  obtain ⟨u', e'⟩ := errBy_ty k j nd.key (adr j) (sl j)
  cases hT : isThere ns 0 with
  | false =>
    rw [valOf_not hT, valOf_there hj hn hk, e']
    refine (is_left _ _ _).mono ?_
    rintro e w1 ⟨rfl, rfl⟩
    refine ⟨?_, Below.refl _ _⟩
    unfold nodeHit
    rw [hn, rootTree_not hT]
    simp
  | true =>
    obtain ⟨t, u, hu⟩ := valOf_iface (adr := adr) (sl := sl) hT
    by_cases hv : k = .value
    · subst hv
      have hkd := (kind_word_eq hk).2 rfl
      have hc := is_any L (tgt_value L nd.key) ns.length 0 w (by omega) hT (Below.refl _ _)
      rw [hit_key, ← rootTree_there hT, hu] at hc
      rw [hu, valOf_there hj hn hk]
      unfold nodeHit
      rw [hn]
      simp only [if_pos hkd]
      exact isFrom_value t u _ w _ hc
    · have hp : isPtr k = true := by cases k <;> first | rfl | exact absurd rfl hl | exact absurd rfl hv
      have hkd : ¬ nd.kind = kValue := by rw [kind_word_eq hk]; exact hv
      have hc := is_any L (tgt_ptr L hj hn hk hp) ns.length 0 w (by omega) hT (Below.refl _ _)
      rw [hit_ptr, ← rootTree_there hT, hu, valOf_there hj hn hk, e'] at hc
      rw [hu, valOf_there hj hn hk, e']
      unfold nodeHit
      rw [hn]
      simp only [if_neg hkd]
      exact isFrom_kind hl t u _ w _ hc

set_option maxHeartbeats 1000000 in
theorem implIsNode (v : Value) (ns : List Nd) (kv : Nat → Value) (j : Nat) (nd : Nd) (k : K8) (w : World) (h : Nodes w v ns kv) (hn : ns.length ≤ 68719476736) (hk : ∀ nd ∈ ns, nd.kids.length ≤ 68719476736)
    (hj : isThere ns j = true) (hnd : ns[j]? = some nd) (hkd : kindOf nd.kind = some k) (hl : k ≠ .list) :
    Calls Try.prog 29 #[v, .int .i64 (j : Int)] w fun e w' => e = .returned (.bool (nodeHit ns j)) ∧ Below w.heap.size w w' := by
  obtain ⟨A, cap, rfl, _, _⟩ := h.form
  have HM := Lib.hid (made_any _ ns kv w h hn hk)
  have HJ := Lib.hid (And.intro hj (And.intro hnd (And.intro hkd hl)))
  clear h hk hj hnd hkd hl
  go_enter Try.func29, Try.ntmps29
  go_wp2_with fail
  refine HM.out.mono ?_
  rintro e w1 ⟨tv, adr, sl, base, rfl, hv, hl, _, hb1⟩
  obtain ⟨TA, tc, rfl, _, _⟩ := hv.form
  simp only [List.length_map, List.length_range] at *
  have hat := at_any _ _ 0 w1 hv
  rw [atIx_val ns adr sl 0 (by omega), Int.toNat_zero] at hat
  have hat2 := at_any _ _ (j : Int) w1 hv
  rw [atIx_val ns adr sl (j : Int) (by omega), Int.toNat_natCast] at hat2
  have HC := Lib.hid (is_node hl HJ.out.1 HJ.out.2.1 HJ.out.2.2.1 HJ.out.2.2.2)
  have HA := Lib.hid (And.intro hat hat2)
  clear hat hat2 hl hv HM HJ
  generalize valOf ns adr sl 0 = x0 at *
  generalize valOf ns adr sl j = xj at *
  go_wp2_with fail
  refine HA.out.1.mono ?_
  rintro e w2 ⟨rfl, rfl⟩
  go_wp2_with fail
  refine HA.out.2.mono ?_
  rintro e w2 ⟨rfl, rfl⟩
  go_wp2_with fail
  refine HC.out.mono ?_
  rintro e w3 ⟨rfl, hb3⟩
  go_wp2_with fail
  go_ret
  exact ⟨rfl, hb1.trans (hb3.mono hb1.size)⟩
end Go.Proofs.Ytnekgmkonhclbaa
