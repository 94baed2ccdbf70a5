/-
  The contracts of the reference's Unwrap, Chain and Present.
  Conditions: at most 2^36 nodes and indices.
-/
import Derived.Test.YtlobmpfgimdpgaaSpecLeast
import Derived.Test.YtlobmpfgimdpgaaUnwrap
namespace Go.Proofs.Ytlobmpfgimdpgaa
open Go.RowKit Go.Lib

theorem word_ne2 {k q : K8} (h : k ≠ q) : k.word ≠ q.word := by
  intro e
  have := congrArg kindOf e
  rw [kindOf_word, kindOf_word] at this
  injection this with this
  exact h this

/-- What the reference's Unwrap returns. -/
def unwrapI (ns : List Nd) (j : Nat) : Int := match unwrapOf ns j with | none => -1 | some q => (q : Nat)

theorem thereB_nat (ns : List Nd) (j : Nat) : thereB ns (j : Int) = isThere ns j := by simp [thereB]

set_option maxRecDepth 100000 in
set_option maxHeartbeats 4000000 in
theorem unwrap_f (ns : List Nd) (NA : Option Addr) (nc : Nat) (kv : Nat → Value) (gi gk : Nat) (ks : Nat → Value) (j : Nat) (w : World) (F : FVal w ns NA nc kv gi gk ks) :
    Calls Try.prog 24 #[.agg #[.slice NA ns.length nc, .slice (some ⟨gi, 0, none⟩) ns.length ns.length, .slice (some ⟨gk, 0, none⟩) ns.length ns.length], .int .i64 (j : Int)] w fun e w' => e = .returned (.int .i64 (unwrapI ns j)) ∧ Below w.heap.size w w' := by
  have hncm : nc ≤ 9223372036854775807 := by
    obtain ⟨_, c, e, _, h⟩ := F.nodes.form
    injection e with _ _ e
    subst e
    simpa [maxLen] using h
  have hc := there_f ns NA nc kv gi gk ks (j : Int) (w.alloc (.cells #[.slice NA ns.length nc, .slice (some ⟨gi, 0, none⟩) ns.length ns.length, .slice (some ⟨gk, 0, none⟩) ns.length ns.length] 31)) (F.keep (below_alloc _ _))
  rw [thereB_nat] at hc
  have HF := Lib.hid F
  clear F
  cases hT : isThere ns j with
  | false =>
    rw [hT] at hc
    have HC := Lib.hid hc
    have HU := Lib.hid (show unwrapI ns j = -1 by unfold unwrapI unwrapOf; rw [hT]; rfl)
    clear hc hT
    go_enter Try.func24, Try.ntmps24
    go_wp2_with (go_at_call 15; refine HC.out.mono ?_; rintro e w1 ⟨rfl, hb1⟩)
    go_ret
    exact ⟨by rw [HU.out]; rfl, below_box hb1⟩
  | true =>
    rw [hT] at hc
    have HC := Lib.hid hc
    have hj := isThere_lt hT
    obtain ⟨nd, k, hn, hk⟩ := isThere_kind hT
    have e1 := isKind_word hn hk .many
    have e2 := isKind_word hn hk .join
    simp only [K8.word] at e1 e2
    have HK := Lib.hid (And.intro hT (And.intro e1 (And.intro e2 (And.intro hn hk))))
    clear hc hT e1 e2
    go_enter Try.func24, Try.ntmps24
    go_wp2_with fail
    refine HC.out.mono ?_
    rintro e w1 ⟨rfl, hb1⟩
    have hblk := heap_keep hb1 (heap_alloc_new w (.cells #[.slice NA ns.length nc, .slice (some ⟨gi, 0, none⟩) ns.length ns.length, .slice (some ⟨gk, 0, none⟩) ns.length ns.length] 31))
    have hbw := below_box hb1
    have hF1 := HF.out.keep hbw
    obtain ⟨b, off, QA, qc, rfl, hkv, n0, n1, n2, n3, _, _⟩ := hF1.nodes.at hn
    obtain ⟨d0, d1, d2⟩ := box3 hblk
    have hvk := hF1.kids j hj
    obtain ⟨KA, kc, hks, hkl, hkm⟩ := hvk.form
    rw [asInts_length] at hks hkl
    rw [hks] at hvk
    have dK : w1.cell? ⟨gk, j, none⟩ = some (.slice KA (kidsOf ns j).length kc) := by
      obtain ⟨b', off', e, h⟩ := rows_at hF1.rows hj
      injection e with e
      injection e with e1 e2
      subst e1 e2
      rw [hks, Nat.zero_add] at h
      exact h
    have hkw : nd.kind = k.word := word_of_kind hk
    rw [hkw] at n0
    have HW := Lib.hid hbw
    have HV := Lib.hid hvk
    simp only [maxLen] at hkm
    clear hkv n1 n2 n3 hn hk hblk hb1 hbw hF1 hks hvk hkw
    by_cases hm : k = .many
    · subst hm
      have HU := Lib.hid (show unwrapI ns j = -1 by unfold unwrapI unwrapOf; rw [HK.out.2.1]; simp)
      simp only [K8.word, kMany] at n0
      go_wp2_with fail
      go_ret
      exact ⟨by rw [HU.out]; rfl, HW.out⟩
    by_cases hjn : k = .join
    · subst hjn
      have HU := Lib.hid (show unwrapI ns j = -1 by unfold unwrapI unwrapOf; rw [HK.out.2.2.1]; simp)
      simp only [K8.word, kJoin] at n0
      clear hm
      go_wp2_with fail
      go_ret
      exact ⟨by rw [HU.out]; rfl, HW.out⟩
    have HUE := Lib.hid (show unwrapOf ns j = (kidsOf ns j).head? by unfold unwrapOf; rw [HK.out.1, HK.out.2.1, HK.out.2.2.1, decide_eq_false hm, decide_eq_false hjn]; rfl)
    have tm : (k.word.toList == [109, 97, 110, 121]) = false := toList_ne (word_ne2 hm)
    have tj : (k.word.toList == [106, 111, 105, 110]) = false := toList_ne (word_ne2 hjn)
    clear hm hjn HK
    generalize k.word = kw at *
    cases hks : kidsOf ns j with
    | nil =>
      rw [hks] at dK
      have HU := Lib.hid (show unwrapI ns j = -1 by unfold unwrapI; rw [HUE.out, hks]; rfl)
      clear hks HV
      simp only [List.length_nil] at *
      go_wp2_with fail
      refine wp_loop_rounds 1 ?_
      rw [rounds_succ]
      go_wp2_with fail
      go_ret
      exact ⟨by rw [HU.out]; rfl, HW.out⟩
    | cons q r =>
      have hv := HV.out
      rw [hks] at dK hv hkl
      obtain ⟨b2, off2, rfl, c0⟩ := hv.at (k := 0) (x := .int .i64 (q : Nat)) rfl
      have HU := Lib.hid (show unwrapI ns j = (q : Nat) by unfold unwrapI; rw [HUE.out, hks]; rfl)
      clear hks HV hv
      simp only [List.length_cons, Nat.add_zero] at *
      have hp : (0 : Int) < ((r.length + 1 : Nat) : Int) := by omega
      go_wp2_with fail
      refine wp_loop_rounds 1 ?_
      rw [rounds_succ]
      go_wp2_with fail
      go_ret
      exact ⟨by rw [HU.out]; rfl, HW.out⟩
end Go.Proofs.Ytlobmpfgimdpgaa
