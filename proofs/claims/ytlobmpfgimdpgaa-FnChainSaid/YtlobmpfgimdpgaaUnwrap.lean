/-
  The contracts of errors.Unwrap, impl.UnwrapRoot and impl.UnwrapChain.
  Conditions: at most 2^36 nodes with at most 2^36 kids each.
-/
import Derived.Test.YtlobmpfgimdpgaaIndex
import Derived.Test.YtlobmpfgimdpgaaMade
import Derived.Test.YtlobmpfgimdpgaaSpecMade
import Derived.Deep.LoopGhost
namespace Go.Proofs.Ytlobmpfgimdpgaa
open Go.RowKit Go.Lib

theorem one_nil (xT : TypeId) (w : World) : (Instr.typeAssert .nilIface xT 108 true).run Try.prog w = .ok (.tuple #[.nilIface, .bool false]) w := by
  have hz : (Try.prog.info? 108).map (·.zero) = some (some .nilIface) := by kernel_rfl
  obtain ⟨i, hi, hz⟩ := Option.map_eq_some_iff.1 hz
  simp [Instr.typeAssert, run_underlying Try.underlying108, zeroValue, typeInfo, hi, hz]

theorem unwrap_nil (w : World) : Calls Try.prog 45 #[.nilIface] w fun e w' => e = .returned .nilIface ∧ w = w' := by
  have h := one_nil
  go_enter Try.func45, Try.ntmps45
  go_wp2
  go_ret
  exact ⟨rfl, rfl⟩

/-- The value of what is unwrapped. -/
def unwrapVal (ns : List Nd) (adr : Nat → Nat) (sl : Nat → Value) (j : Nat) : Value := ((unwrapOf ns j).map (valOf ns adr sl)).getD .nilIface

theorem isKind_word {ns : List Nd} {i : Nat} {nd : Nd} {k : K8} (hn : ns[i]? = some nd) (hk : kindOf nd.kind = some k) (q : K8) : isKind ns q.word i = decide (k = q) := by
  unfold isKind
  rw [hn]
  simp only [word_of_kind hk]
  cases k <;> cases q <;> decide
theorem unwrapVal_single {ns : List Nd} {adr : Nat → Nat} {sl : Nat → Value} {j : Nat} {nd : Nd} {k : K8} (hj : isThere ns j = true) (hn : ns[j]? = some nd) (hk : kindOf nd.kind = some k) (h1 : k ≠ .many) (h2 : k ≠ .join) : unwrapVal ns adr sl j = kidVal ns adr sl j := by
  unfold unwrapVal unwrapOf kidVal
  have e1 := isKind_word hn hk .many
  have e2 := isKind_word hn hk .join
  simp only [K8.word] at e1 e2
  rw [hj, e1, e2, decide_eq_false h1, decide_eq_false h2]
  rfl
theorem unwrapVal_none {ns : List Nd} {adr : Nat → Nat} {sl : Nat → Value} {j : Nat} {nd : Nd} {k : K8} (hn : ns[j]? = some nd) (hk : kindOf nd.kind = some k) (h1 : k = .many ∨ k = .join) : unwrapVal ns adr sl j = .nilIface := by
  unfold unwrapVal unwrapOf
  have e1 := isKind_word hn hk .many
  have e2 := isKind_word hn hk .join
  simp only [K8.word] at e1 e2
  rw [e1, e2]
  rcases h1 with rfl | rfl <;> simp
theorem kidVal_none {ns : List Nd} {adr : Nat → Nat} {sl : Nat → Value} {j : Nat} {nd : Nd} {k : K8} (hn : ns[j]? = some nd) (hk : kindOf nd.kind = some k) (h1 : k = .text ∨ k = .value ∨ k = .list) : kidVal ns adr sl j = .nilIface := by
  unfold kidVal kidsOf
  rw [hn]
  simp only [hk]
  rcases h1 with rfl | rfl | rfl <;> rfl

set_option maxRecDepth 100000 in
set_option maxHeartbeats 2000000 in
theorem unwrap_any {w : World} {ns : List Nd} {adr : Nat → Nat} {sl : Nat → Value} {base j : Nat} (L : Lies w ns adr sl base 0) (hj : isThere ns j = true) :
    Calls Try.prog 45 #[valOf ns adr sl j] w fun e w' => e = .returned (unwrapVal ns adr sl j) ∧ w = w' := by
  obtain ⟨nd, k, hn, hk⟩ := isThere_kind hj
  have hm := L.mem j nd k (Nat.zero_le _) hn hj hk
  rw [valOf_there hj hn hk]
  by_cases hs : k = .many ∨ k = .join
  · rw [unwrapVal_none hn hk hs]
    rcases hs with rfl | rfl
    · have h := one_many
      simp only [errBy]
      clear hm hn hk
      go_enter Try.func45, Try.ntmps45
      go_wp2_with fail
      go_ret
      exact ⟨rfl, rfl⟩
    · have h := one_join
      simp only [errBy]
      clear hm hn hk
      go_enter Try.func45, Try.ntmps45
      go_wp2_with fail
      go_ret
      exact ⟨rfl, rfl⟩
  · have h1 : k ≠ .many := fun e => hs (.inl e)
    have h2 : k ≠ .join := fun e => hs (.inr e)
    rw [unwrapVal_single hj hn hk h1 h2]
    cases k
    case many => exact absurd rfl h1
    case join => exact absurd rfl h2
    case text =>
      rw [kidVal_none hn hk (by simp)]
      have h := one_text
      simp only [errBy]
      clear hm hn hk h1 h2 hs
      go_enter Try.func45, Try.ntmps45
      go_wp2_with fail
      go_ret
      exact ⟨rfl, rfl⟩
    case value =>
      rw [kidVal_none hn hk (by simp)]
      have h := one_value
      simp only [errBy]
      clear hm hn hk h1 h2 hs
      go_enter Try.func45, Try.ntmps45
      go_wp2_with fail
      go_ret
      exact ⟨rfl, rfl⟩
    case list =>
      rw [kidVal_none hn hk (by simp)]
      have h := one_list
      simp only [errBy]
      clear hm hn hk h1 h2 hs
      go_enter Try.func45, Try.ntmps45
      go_wp2_with fail
      go_ret
      exact ⟨rfl, rfl⟩
    case wrap =>
      have h := one_wrap
      have h3 := methU_wrap
      simp only [errBy]
      simp only [blkBy] at hm
      have HC := Lib.hid (unwrap_wrap (adr j) _ w (cell_of_heap hm 1 rfl))
      clear hm hn hk h1 h2 hs
      generalize kidVal ns adr sl j = x at *
      go_enter Try.func45, Try.ntmps45
      go_wp2_with (go_at_call 74; refine HC.out.mono ?_; rintro e w1 ⟨rfl, rfl⟩)
      go_ret
      exact ⟨rfl, rfl⟩
    case alike =>
      have h := one_alike
      have h3 := methU_alike
      simp only [errBy]
      simp only [blkBy] at hm
      have HC := Lib.hid (unwrap_alike (adr j) _ w (cell_of_heap hm 1 rfl))
      clear hm hn hk h1 h2 hs
      generalize kidVal ns adr sl j = x at *
      go_enter Try.func45, Try.ntmps45
      go_wp2_with (go_at_call 78; refine HC.out.mono ?_; rintro e w1 ⟨rfl, rfl⟩)
      go_ret
      exact ⟨rfl, rfl⟩
    case acts =>
      have h := one_acts
      have h3 := methU_acts
      simp only [errBy]
      simp only [blkBy] at hm
      have HC := Lib.hid (unwrap_acts (adr j) _ w (cell_of_heap hm 1 rfl))
      clear hm hn hk h1 h2 hs
      generalize kidVal ns adr sl j = x at *
      go_enter Try.func45, Try.ntmps45
      go_wp2_with (go_at_call 80; refine HC.out.mono ?_; rintro e w1 ⟨rfl, rfl⟩)
      go_ret
      exact ⟨rfl, rfl⟩

theorem leastOf_list {ns : List Nd} {j : Nat} {nd : Nd} (hn : ns[j]? = some nd) (hk : kindOf nd.kind = some .list) : leastOf ns j = j := by
  unfold leastOf
  rw [hn]
  simp only
  rw [if_neg (by rw [word_of_kind hk]; decide)]
/-- index at any error of the nodes. -/
theorem index_any {ns : List Nd} {adr : Nat → Nat} {sl : Nat → Value} {base j : Nat} (tv : Value) (w : World) (hv : Vals w tv ((List.range ns.length).map (valOf ns adr sl))) (L : Lies w ns adr sl base 0) (hj : isThere ns j = true) (hlen : ns.length ≤ 68719476736) :
    Calls Try.prog 44 #[tv, valOf ns adr sl j] w fun e w' => e = .returned (.int .i64 (leastOf ns j : Nat)) ∧ Below w.heap.size w w' := by
  obtain ⟨nd, k, hn, hk⟩ := isThere_kind hj
  by_cases hl : k = .list
  · subst hl
    rw [valOf_there hj hn hk, leastOf_list hn hk]
    exact index_list tv j (sl j) (L.mem j nd .list (Nat.zero_le _) hn hj hk) w
  · exact index_other tv w hv L hj hn hk hl hlen

/-- What UnwrapRoot returns. -/
def rootUnwrap (ns : List Nd) : Int := match unwrapOf ns 0 with | none => -1 | some q => (leastOf ns q : Nat)

theorem atIx_root (ns : List Nd) (adr : Nat → Nat) (sl : Nat → Value) : atIx ((List.range ns.length).map (valOf ns adr sl)) 0 = valOf ns adr sl 0 := by
  unfold atIx
  rw [if_pos (Int.le_refl 0), List.getD_eq_getElem?_getD]
  by_cases h : 0 < ns.length
  · simp [h]
  · rw [List.getElem?_eq_none (by rw [List.length_map, List.length_range]; omega), valOf_not (isThere_none ns _ (by omega))]
    rfl

set_option maxHeartbeats 1000000 in
theorem implUnwrapRoot (v : Value) (ns : List Nd) (kv : Nat → Value) (w : World) (h : Nodes w v ns kv) (hn : ns.length ≤ 68719476736) (hk : ∀ nd ∈ ns, nd.kids.length ≤ 68719476736) :
    Calls Try.prog 26 #[v] w fun e w' => e = .returned (.int .i64 (rootUnwrap ns)) ∧ Below w.heap.size w w' := by
  obtain ⟨A, cap, rfl, _, _⟩ := h.form
  have HM := Lib.hid (made_any _ ns kv w h hn hk)
  clear h hk
  go_enter Try.func26, Try.ntmps26
  go_wp2_with fail
  refine HM.out.mono ?_
  rintro e w1 ⟨tv, adr, sl, base, rfl, hv, hl, _, hb1⟩
  obtain ⟨TA, tc, rfl, _, _⟩ := hv.form
  simp only [List.length_map, List.length_range] at *
  have hat := at_any _ _ 0 w1 hv
  rw [atIx_root] at hat
  have HA := Lib.hid hat
  have HL := Lib.hid (And.intro hl hv)
  clear hat hl hv HM
  go_wp2_with fail
  refine HA.out.mono ?_
  rintro e w2 ⟨rfl, rfl⟩
  have hun : Calls Try.prog 45 #[valOf ns adr sl 0] w1 fun e w' => e = .returned (((unwrapOf ns 0).map (valOf ns adr sl)).getD .nilIface) ∧ w1 = w' := by
    cases hT : isThere ns 0 with
    | false =>
      rw [valOf_not hT]
      have : unwrapOf ns 0 = none := by unfold unwrapOf; rw [hT]; rfl
      rw [this]
      exact unwrap_nil w1
    | true => exact unwrap_any HL.out.1 hT
  have hix : Calls Try.prog 44 #[.slice TA ns.length tc, ((unwrapOf ns 0).map (valOf ns adr sl)).getD .nilIface] w1 fun e w' => e = .returned (.int .i64 (rootUnwrap ns)) ∧ Below w1.heap.size w1 w' := by
    unfold rootUnwrap
    cases hu : unwrapOf ns 0 with
    | none =>
      refine (index_nil _ w1).mono ?_
      rintro e w' ⟨rfl, rfl⟩
      exact ⟨rfl, Below.refl _ _⟩
    | some q => exact index_any _ w1 HL.out.2 HL.out.1 (unwrapOf_lt hu).2.2 hn
  have HU := Lib.hid hun
  have HI := Lib.hid hix
  clear hun hix
  generalize valOf ns adr sl 0 = x0 at *
  generalize ((unwrapOf ns 0).map (valOf ns adr sl)).getD .nilIface = x1 at *
  go_wp2_with fail
  refine HU.out.mono ?_
  rintro e w2 ⟨rfl, rfl⟩
  go_wp2_with fail
  refine HI.out.mono ?_
  rintro e w3 ⟨rfl, hb3⟩
  go_wp2_with fail
  go_ret
  exact ⟨rfl, hb1.trans (hb3.mono hb1.size)⟩

/-- The chain as UnwrapChain gives it. -/
def chainInts (l : List Nat) (ns : List Nd) : List Value := l.map fun j => Value.int .i64 (leastOf ns j : Nat)

/-- The relation of the loop of UnwrapChain. -/
def ChainRel (w : World) (ns : List Nd) (adr : Nat → Nat) (sl : Nat → Value) (gk : Nat) (vo ve : Value) (wr : World) : Prop :=
  ∃ (done rest : List Nat) (g cp : Nat), vo = .slice (some ⟨g, 0, none⟩) done.length cp ∧ wr.ownsRow w.heap.size 3 1 (.slice (some ⟨g, 0, none⟩) done.length cp) done.length (chainInts done ns) ∧ Below w.heap.size w wr ∧
    done ++ rest = rootChain ns ∧ rest.length ≤ gk ∧ ((rest = [] ∧ ve = .nilIface) ∨ ∃ j, isThere ns j = true ∧ rest = chainOf ns j ∧ ve = valOf ns adr sl j)

theorem rootChain_length (ns : List Nd) : (rootChain ns).length ≤ ns.length := by
  unfold rootChain
  split
  · rename_i h
    have := chainOf_length ns _ 0 (isThere_lt h) (Nat.le_refl _)
    omega
  · simp

set_option maxRecDepth 100000 in
set_option maxHeartbeats 4000000 in
theorem implUnwrapChain (v : Value) (ns : List Nd) (kv : Nat → Value) (w : World) (h : Nodes w v ns kv) (hn : ns.length ≤ 68719476736) (hk : ∀ nd ∈ ns, nd.kids.length ≤ 68719476736) :
    Calls Try.prog 31 #[v] w fun e w' => ∃ r, e = .returned r ∧ w'.ownsRow w.heap.size 3 1 r (rootChain ns).length (chainInts (rootChain ns) ns) ∧ Below w.heap.size w w' := by
  obtain ⟨A, cap, rfl, _, _⟩ := h.form
  have HM := Lib.hid (made_any _ ns kv w h hn hk)
  clear h hk
  go_enter Try.func31, Try.ntmps31
  go_wp2_with fail
  refine HM.out.mono ?_
  rintro e w1 ⟨tv, adr, sl, base, rfl, hv, hl, _, hb1⟩
  obtain ⟨TA, tc, rfl, _, _⟩ := hv.form
  simp only [List.length_map, List.length_range] at *
  have hat : ∀ o, Calls Try.prog 38 #[.slice TA ns.length tc, .int .i64 0] (w1.alloc o) fun e w' => e = .returned (valOf ns adr sl 0) ∧ w1.alloc o = w' := fun o => by
    have := at_any _ _ 0 (w1.alloc o) (hv.keep (below_alloc _ _))
    rw [atIx_root] at this
    exact this
  have hR0 : ChainRel w1 ns adr sl (rootChain ns).length (.slice (some ⟨w1.heap.size, 0, none⟩) 0 0) (valOf ns adr sl 0) (w1.alloc (.cells #[] 3)) := by
    refine ⟨[], rootChain ns, w1.heap.size, 0, rfl, World.ownsRow_lit w1 #[] 0 (Nat.le_refl _) (by simp [maxLen]) (by simp), below_alloc _ _, rfl, Nat.le_refl _, ?_⟩
    unfold rootChain
    cases hT : isThere ns 0 with
    | false => exact .inl ⟨rfl, valOf_not hT⟩
    | true => exact .inr ⟨0, hT, rfl, rfl⟩
  have R0 := Lib.hid hR0
  have HA := Lib.hid hat
  have HL := Lib.hid (And.intro hl (And.intro hv hb1))
  clear hat hl hv HM hR0 hb1
  generalize valOf ns adr sl 0 = x0 at *
  go_wp2_with (go_at_call 38; refine (HA.out _).mono ?_; rintro e w2 ⟨rfl, rfl⟩)
  go_loopg [4, 5] (rootChain ns).length (fun gk vo ve wr => ChainRel w1 ns adr sl gk vo ve wr)
  case atStart => exact R0.out
  case round =>
    obtain ⟨done, rest, g, cp, rfl, hown, hbel, hdr, hgk, hcase⟩ := hrel
    clear R0
    have hcl := rootChain_length ns
    have hs1 := hbel.size
    rcases hcase with ⟨rfl, rfl⟩ | ⟨j, hj, rfl, rfl⟩
    · rw [List.append_nil] at hdr
      subst hdr
      have S := Lib.hid (And.intro hown hbel)
      clear hown hbel
      go_wp2_with fail
      go_ret
      exact ⟨_, rfl, World.ownsRow.mono_base S.out.1 HL.out.2.2.size, below_after HL.out.2.2 S.out.2⟩
    · have hjl := isThere_lt hj
      have hix := index_any _ wr (HL.out.2.1.keep hbel) (HL.out.1.keep hbel) hj hn
      have hce := chainOf_eq ns j hjl
      have hdl : done.length + 1 ≤ ns.length := by
        have := congrArg List.length hdr
        rw [List.length_append, hce, List.length_cons] at this
        omega
      obtain ⟨t, u, hval⟩ : ∃ t u, valOf ns adr sl j = .iface t u := by
        obtain ⟨nd, k, hnd, hkd⟩ := isThere_kind hj
        rw [valOf_there hj hnd hkd]
        exact errBy_iface _ _ _ _ _
      have hun : ∀ W, Below w1.heap.size w1 W → Calls Try.prog 45 #[.iface t u] W fun e w' => e = .returned (unwrapVal ns adr sl j) ∧ W = w' := fun W hW => by
        have := unwrap_any (HL.out.1.keep hW) hj
        rw [hval] at this
        exact this
      rw [hval] at hix ⊢
      have S := Lib.hid (And.intro hown (And.intro hbel (And.intro hdr hce)))
      have HU := Lib.hid hun
      have HI := Lib.hid hix
      clear hown hbel hdr hce hun hix hval hj
      generalize hLJ : leastOf ns j = lj at *
      have HLJ := Lib.hid hLJ
      clear hLJ
      generalize hUV : unwrapVal ns adr sl j = uv at *
      have HUV := Lib.hid hUV
      clear hUV
      go_wp2_with fail
      refine HI.out.mono ?_
      rintro e w3 ⟨rfl, hb3⟩
      have hown3 := own_below S.out.1 hb3
      have hs3 := hb3.size
      have HB3 := Lib.hid (below_after S.out.2.1 hb3)
      clear hb3
      go_wp2_with (first
        | (at_builtin; refine wpList_push rfl _ _ _ rfl elemInts rfl hown3 rfl rfl rfl (by simp [Value.oneCell']) (by omega) (by omega) ?_; intro g4 cp4 w4 hown4 hbel4 hgr4 hlt4 hat4; have HB4 := Lib.hid (HB3.out.trans hbel4))
        | (go_at_call 45; refine (HU.out _ HB4.out).mono ?_; rintro e w5 ⟨rfl, rfl⟩))
      have hrest : chainOf ns j = j :: (match unwrapOf ns j with | none => [] | some q => chainOf ns q) := S.out.2.2.2
      have hlen := congrArg List.length hrest
      rw [List.length_cons] at hlen
      go_roundg (match unwrapOf ns j with | none => ([] : List Nat) | some q => chainOf ns q).length
      case measure => omega
      case rel =>
        refine ⟨done ++ [j], (match unwrapOf ns j with | none => [] | some q => chainOf ns q), g4, cp4, by simp, ?_, HB4.out, ?_, Nat.le_refl _, ?_⟩
        · have e : chainInts (done ++ [j]) ns = chainInts done ns ++ [.int .i64 (lj : Nat)] := by unfold chainInts; rw [List.map_append, ← HLJ.out]; rfl
          rw [e, List.length_append, List.length_singleton]
          exact hown4
        · rw [List.append_assoc, List.singleton_append, ← hrest]
          exact S.out.2.2.1
        · rw [← HUV.out]
          unfold unwrapVal
          cases hu : unwrapOf ns j with
          | none => exact .inl ⟨rfl, rfl⟩
          | some q => exact .inr ⟨q, (unwrapOf_lt hu).2.2, rfl, rfl⟩
end Go.Proofs.Ytlobmpfgimdpgaa
