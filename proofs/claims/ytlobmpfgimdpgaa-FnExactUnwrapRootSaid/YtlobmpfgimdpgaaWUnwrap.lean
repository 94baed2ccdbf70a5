/-
  The walks of the laws FnExactUnwrapRoot and FnExactUnwrapChain: they return true.
  Conditions: the nodes take at most 2^47 - 4096 bytes.
-/
import Derived.Test.YtlobmpfgimdpgaaNodes
import Derived.Test.YtlobmpfgimdpgaaSpecLarge
import Derived.Test.YtlobmpfgimdpgaaSpecChain
namespace Go.Proofs.Ytlobmpfgimdpgaa
open Go.RowKit Go.Lib

set_option maxRecDepth 100000 in
set_option maxHeartbeats 4000000 in
theorem wFnExactUnwrapRoot (v : Value) (ns : List Nd) (kv : Nat → Value) (w : World) (h : Nodes w v ns kv) (hr : ns.length * 64 ≤ 140737488351232) :
    Calls Try.prog 5 #[v] w fun e w' => e = .returned (.bool true) ∧ Below w.heap.size w w' := by
  obtain ⟨A, cap, rfl, _, hcm⟩ := h.form
  simp only [maxLen] at hcm
  have HN := Lib.hid h
  clear h
  go_enter Try.func5, Try.ntmps5
  go_wp2_with fail
  refine (specNodes_any _ ns kv _ HN.out hr).mono ?_
  rintro e w1 ⟨v1, rfl, hn1, hb⟩
  obtain ⟨NA, nc, rfl, _, hncm⟩ := hn1.form
  simp only [maxLen] at hncm
  have HM := Lib.hid hn1
  have hB1 := hb
  have hC1 : Below w1.heap.size w1 w1 := Below.refl _ _
  clear hn1 hb
  go_wp2_with fail
  refine (large_f _ ns kv _ (HM.out.keep hC1)).mono ?_
  rintro e w2 ⟨bl, rfl, hsm, hb⟩
  have hB2 := below_after hB1 hb
  have hC2 := below_after hC1 hb
  clear hb
  have HSM := Lib.hid hsm
  clear hsm
  cases bl with
  | true =>
    clear HSM
    go_wp2_with fail
    go_ret
    exact ⟨rfl, hB2⟩
  | false =>
    have HS := Lib.hid (HSM.out rfl)
    clear HSM
    have HL := Lib.hid (show ns.length ≤ 68719476736 by have := HS.out.len; omega)
    have HKD := Lib.hid (show ∀ nd ∈ ns, nd.kids.length ≤ 68719476736 from fun nd hnd => by have := (HS.out.each nd hnd).1; omega)
    have HTR := Lib.hid (show ∀ j, j < ns.length → treeLen ns j ≤ 1073741824 from fun j hj => by have := HS.out.tree j hj; omega)
    go_wp2_with fail
    refine (specMade_any _ ns kv _ (HM.out.keep hC2) HL.out HKD.out).mono ?_
    intro e w3 hm
    obtain ⟨gi3, gk3, ks3, rfl, hF, hb⟩ := SpecMade.fval hm (HM.out.keep hC2)
    have HF3 := Lib.hid hF
    clear hm hF
    have hB3 := below_after hB2 hb
    have hC3 := below_after hC2 hb
    clear hb
    go_wp2_with fail
    refine (unwrap_f ns NA nc kv gi3 gk3 ks3 0 _ HF3.out).mono ?_
    rintro e w4 ⟨rfl, hb⟩
    have hB4 := below_after hB3 hb
    have hC4 := below_after hC3 hb
    clear hb
    cases hu : unwrapOf ns 0 with
    | none =>
      have HR := Lib.hid (show rootUnwrap ns = -1 by unfold rootUnwrap; rw [hu])
      rw [show unwrapI ns 0 = -1 by unfold unwrapI; rw [hu]]
      clear hu
      go_wp2_with fail
      refine (implUnwrapRoot _ ns kv _ (HN.out.keep hB4) HL.out HKD.out).mono ?_
      rintro e w5 ⟨rfl, hb⟩
      have hB5 := below_after hB4 hb
      have hC5 := below_after hC4 hb
      clear hb
      rw [HR.out]
      go_wp2_with fail
      go_ret
      exact ⟨rfl, hB5⟩
    | some q =>
      have hq := unwrapOf_lt hu
      have HR := Lib.hid (show rootUnwrap ns = (leastOf ns q : Nat) by unfold rootUnwrap; rw [hu])
      rw [show unwrapI ns 0 = (q : Nat) by unfold unwrapI; rw [hu]]
      obtain ⟨_, hql, _⟩ := hq
      clear hu
      go_wp2_with fail
      refine (specMade_any _ ns kv _ (HM.out.keep hC4) HL.out HKD.out).mono ?_
      intro e w5 hm
      obtain ⟨gi5, gk5, ks5, rfl, hF, hb⟩ := SpecMade.fval hm (HM.out.keep hC4)
      have HF5 := Lib.hid hF
      clear hm hF
      have hB5 := below_after hB4 hb
      have hC5 := below_after hC4 hb
      clear hb
      go_wp2_with fail
      refine (least_f ns NA nc kv gi5 gk5 ks5 q hql HL.out _ HF5.out).mono ?_
      rintro e w6 ⟨rfl, hb⟩
      have hB6 := below_after hB5 hb
      have hC6 := below_after hC5 hb
      clear hb
      go_wp2_with fail
      refine (implUnwrapRoot _ ns kv _ (HN.out.keep hB6) HL.out HKD.out).mono ?_
      rintro e w7 ⟨rfl, hb⟩
      have hB7 := below_after hB6 hb
      have hC7 := below_after hC6 hb
      clear hb
      rw [HR.out]
      generalize leastOf ns q = lq at *
      go_wp2_with fail
      go_ret
      exact ⟨rfl, hB7⟩

set_option maxRecDepth 100000 in
set_option maxHeartbeats 4000000 in
theorem wFnExactUnwrapChain (v : Value) (ns : List Nd) (kv : Nat → Value) (w : World) (h : Nodes w v ns kv) (hr : ns.length * 64 ≤ 140737488351232) :
    Calls Try.prog 8 #[v] w fun e w' => e = .returned (.bool true) ∧ Below w.heap.size w w' := by
  obtain ⟨A, cap, rfl, _, hcm⟩ := h.form
  simp only [maxLen] at hcm
  have HN := Lib.hid h
  clear h
  go_enter Try.func8, Try.ntmps8
  go_wp2_with fail
  refine (specNodes_any _ ns kv _ HN.out hr).mono ?_
  rintro e w1 ⟨v1, rfl, hn1, hb⟩
  obtain ⟨NA, nc, rfl, _, hncm⟩ := hn1.form
  simp only [maxLen] at hncm
  have HM := Lib.hid hn1
  have hB1 := hb
  have hC1 : Below w1.heap.size w1 w1 := Below.refl _ _
  clear hn1 hb
  go_wp2_with fail
  refine (large_f _ ns kv _ (HM.out.keep hC1)).mono ?_
  rintro e w2 ⟨bl, rfl, hsm, hb⟩
  have hB2 := below_after hB1 hb
  have hC2 := below_after hC1 hb
  clear hb
  have HSM := Lib.hid hsm
  clear hsm
  cases bl with
  | true =>
    clear HSM
    go_wp2_with fail
    go_ret
    exact ⟨rfl, hB2⟩
  | false =>
    have HS := Lib.hid (HSM.out rfl)
    clear HSM
    have HL := Lib.hid (show ns.length ≤ 68719476736 by have := HS.out.len; omega)
    have HKD := Lib.hid (show ∀ nd ∈ ns, nd.kids.length ≤ 68719476736 from fun nd hnd => by have := (HS.out.each nd hnd).1; omega)
    have HTR := Lib.hid (show ∀ j, j < ns.length → treeLen ns j ≤ 1073741824 from fun j hj => by have := HS.out.tree j hj; omega)
    go_wp2_with fail
    refine (implUnwrapChain _ ns kv _ (HN.out.keep hB2) HL.out HKD.out).mono ?_
    rintro e w3 ⟨r1, rfl, hr1, hb⟩
    have hB3 := below_after hB2 hb
    have hC3 := below_after hC2 hb
    clear hb
    have hv1 := Vals.of_own hr1
    obtain ⟨R1, rc1, rfl, _, _⟩ := hv1.form
    have HV1 := Lib.hid hv1
    clear hr1 hv1
    have hD3 : Below w3.heap.size w3 w3 := Below.refl _ _
    go_wp2_with fail
    refine (specMade_any _ ns kv _ (HM.out.keep hC3) HL.out HKD.out).mono ?_
    intro e w4 hm
    obtain ⟨gi4, gk4, ks4, rfl, hF, hb⟩ := SpecMade.fval hm (HM.out.keep hC3)
    have hD4 := hb
    have HF4 := Lib.hid hF
    clear hm hF
    have hB4 := below_after hB3 hb
    have hC4 := below_after hC3 hb
    clear hb
    go_wp2_with fail
    refine (chain_f ns NA nc kv gi4 gk4 ks4 HL.out _ HF4.out).mono ?_
    rintro e w5 ⟨r2, rfl, hr2, hb⟩
    have hD5 := below_after hD4 hb
    have hB5 := below_after hB4 hb
    have hC5 := below_after hC4 hb
    clear hb
    have hv2 := Vals.of_own hr2
    obtain ⟨R2, rc2, rfl, _, _⟩ := hv2.form
    have HV2 := Lib.hid hv2
    clear hr2 hv2
    have hci : chainInts (rootChain ns) ns = ((rootChain ns).map fun j => ((leastOf ns j : Nat) : Int)).map (.int .i64) := by unfold chainInts; rw [List.map_map]; rfl
    have hsame := same_any _ _ ((rootChain ns).map fun j => ((leastOf ns j : Nat) : Int)) w5 (by rw [← hci]; exact HV1.out.keep hD5) (by rw [← hci]; exact HV2.out)
    have HSM2 := Lib.hid hsame
    clear hsame hci
    go_wp2_with fail
    refine (HSM2.out).mono ?_
    rintro e w6 ⟨rfl, hb⟩
    have hB6 := below_after hB5 hb
    have hC6 := below_after hC5 hb
    clear hb
    go_wp2_with fail
    go_ret
    exact ⟨rfl, hB6⟩

end Go.Proofs.Ytlobmpfgimdpgaa
