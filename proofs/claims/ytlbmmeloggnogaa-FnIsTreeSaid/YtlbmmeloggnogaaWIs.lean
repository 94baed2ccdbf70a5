/-
  The walks of the laws FnExactIsValue, FnExactIsJoin and FnExactIsNode: they return true.
  Conditions: the nodes take at most 2^47 - 4096 bytes.
-/
import Derived.Test.YtlbmmeloggnogaaNodes
import Derived.Test.YtlbmmeloggnogaaSpecLarge
import Derived.Test.YtlbmmeloggnogaaSpecNode
import Derived.Test.YtlbmmeloggnogaaImplIs
namespace Go.Proofs.Ytlbmmeloggnogaa
open Go.RowKit Go.Lib

theorem specHit_eq (ns : List Nd) (j : Nat) : specHit ns j = nodeHit ns j := rfl
theorem thereB_zero (ns : List Nd) : thereB ns 0 = isThere ns 0 := by simp [thereB]

set_option maxRecDepth 100000 in
set_option maxHeartbeats 4000000 in
theorem wFnExactIsValue (v : Value) (ns : List Nd) (kv : Nat → Value) (key : Int) (w : World) (h : Nodes w v ns kv) (hr : ns.length * 64 ≤ 140737488351232) :
    Calls Try.prog 4 #[v, .int .i64 key] w fun e w' => e = .returned (.bool true) ∧ Below w.heap.size w w' := by
  obtain ⟨A, cap, rfl, _, hcm⟩ := h.form
  simp only [maxLen] at hcm
  have HN := Lib.hid h
  clear h
  go_enter Try.func4, Try.ntmps4
  go_wp2_with fail
  refine (specNodes_any _ ns kv _ HN.out hr).mono ?_
  rintro e w1 ⟨v1, rfl, hn1, hb⟩
  obtain ⟨NA, nc, rfl, _, hncm⟩ := hn1.form
  simp only [maxLen] at hncm
  have HM := Lib.hid hn1
  have hB1 := hb
  have hC1 : Below w1.heap.size w1 w1 := Below.refl _ _
  clear hn1 hb
  go_wp2_with fail
  refine (large_f _ ns kv _ (HM.out.keep hC1)).mono ?_
  rintro e w2 ⟨bl, rfl, hsm, hb⟩
  have hB2 := below_after hB1 hb
  have hC2 := below_after hC1 hb
  clear hb
  have HSM := Lib.hid hsm
  clear hsm
  cases bl with
  | true =>
    clear HSM
    go_wp2_with fail
    go_ret
    exact ⟨rfl, hB2⟩
  | false =>
    have HS := Lib.hid (HSM.out rfl)
    clear HSM
    have HL := Lib.hid (show ns.length ≤ 68719476736 by have := HS.out.len; omega)
    have HKD := Lib.hid (show ∀ nd ∈ ns, nd.kids.length ≤ 68719476736 from fun nd hnd => by have := (HS.out.each nd hnd).1; omega)
    have HTR := Lib.hid (show ∀ j, j < ns.length → treeLen ns j ≤ 1073741824 from fun j hj => by have := HS.out.tree j hj; omega)
    go_wp2_with fail
    refine (specMade_any _ ns kv _ (HM.out.keep hC2) HL.out HKD.out).mono ?_
    intro e w3 hm
    obtain ⟨gi3, gk3, ks3, rfl, hF, hb⟩ := SpecMade.fval hm (HM.out.keep hC2)
    have HF3 := Lib.hid hF
    clear hm hF
    have hB3 := below_after hB2 hb
    have hC3 := below_after hC2 hb
    clear hb
    go_wp2_with fail
    refine (there_f ns NA nc kv gi3 gk3 ks3 0 _ HF3.out).mono ?_
    rintro e w4 ⟨rfl, hb⟩
    have hB4 := below_after hB3 hb
    have hC4 := below_after hC3 hb
    clear hb
    rw [thereB_zero]
    cases hT : isThere ns 0 with
    | false =>
      clear hT
      go_wp2_with fail
      go_ret
      exact ⟨rfl, hB4⟩
    | true =>
      clear hT
      go_wp2_with fail
      refine (implIsValue _ ns kv key _ (HN.out.keep hB4) HL.out HKD.out).mono ?_
      rintro e w5 ⟨rfl, hb⟩
      have hB5 := below_after hB4 hb
      have hC5 := below_after hC4 hb
      clear hb
      go_wp2_with fail
      refine (specMade_any _ ns kv _ (HM.out.keep hC5) HL.out HKD.out).mono ?_
      intro e w6 hm
      obtain ⟨gi6, gk6, ks6, rfl, hF, hb⟩ := SpecMade.fval hm (HM.out.keep hC5)
      have HF6 := Lib.hid hF
      clear hm hF
      have hB6 := below_after hB5 hb
      have hC6 := below_after hC5 hb
      clear hb
      go_wp2_with fail
      refine (isValue_f ns NA nc kv gi6 gk6 ks6 HTR.out key _ HF6.out).mono ?_
      rintro e w7 ⟨rfl, hb⟩
      have hB7 := below_after hB6 hb
      have hC7 := below_after hC6 hb
      clear hb
      generalize (rootTree ns).any (hitVal ns key) = b
      cases b
      all_goals
        go_wp2_with fail
        go_ret
        exact ⟨rfl, hB7⟩

set_option maxRecDepth 100000 in
set_option maxHeartbeats 4000000 in
theorem wFnExactIsJoin (v : Value) (ns : List Nd) (kv : Nat → Value) (at_ : Int) (w : World) (h : Nodes w v ns kv) (hr : ns.length * 64 ≤ 140737488351232) :
    Calls Try.prog 6 #[v, .int .i64 at_] w fun e w' => e = .returned (.bool true) ∧ Below w.heap.size w w' := by
  obtain ⟨A, cap, rfl, _, hcm⟩ := h.form
  simp only [maxLen] at hcm
  have HN := Lib.hid h
  clear h
  go_enter Try.func6, Try.ntmps6
  go_wp2_with fail
  refine (specNodes_any _ ns kv _ HN.out hr).mono ?_
  rintro e w1 ⟨v1, rfl, hn1, hb⟩
  obtain ⟨NA, nc, rfl, _, hncm⟩ := hn1.form
  simp only [maxLen] at hncm
  have HM := Lib.hid hn1
  have hB1 := hb
  have hC1 : Below w1.heap.size w1 w1 := Below.refl _ _
  clear hn1 hb
  go_wp2_with fail
  refine (large_f _ ns kv _ (HM.out.keep hC1)).mono ?_
  rintro e w2 ⟨bl, rfl, hsm, hb⟩
  have hB2 := below_after hB1 hb
  have hC2 := below_after hC1 hb
  clear hb
  have HSM := Lib.hid hsm
  clear hsm
  cases bl with
  | true =>
    clear HSM
    go_wp2_with fail
    go_ret
    exact ⟨rfl, hB2⟩
  | false =>
    have HS := Lib.hid (HSM.out rfl)
    clear HSM
    have HL := Lib.hid (show ns.length ≤ 68719476736 by have := HS.out.len; omega)
    have HKD := Lib.hid (show ∀ nd ∈ ns, nd.kids.length ≤ 68719476736 from fun nd hnd => by have := (HS.out.each nd hnd).1; omega)
    have HTR := Lib.hid (show ∀ j, j < ns.length → treeLen ns j ≤ 1073741824 from fun j hj => by have := HS.out.tree j hj; omega)
    go_wp2_with fail
    refine (specMade_any _ ns kv _ (HM.out.keep hC2) HL.out HKD.out).mono ?_
    intro e w3 hm
    obtain ⟨gi3, gk3, ks3, rfl, hF, hb⟩ := SpecMade.fval hm (HM.out.keep hC2)
    have HF3 := Lib.hid hF
    clear hm hF
    have hB3 := below_after hB2 hb
    have hC3 := below_after hC2 hb
    clear hb
    go_wp2_with fail
    refine (there_f ns NA nc kv gi3 gk3 ks3 at_ _ HF3.out).mono ?_
    rintro e w4 ⟨rfl, hb⟩
    have hB4 := below_after hB3 hb
    have hC4 := below_after hC3 hb
    clear hb
    cases hT : thereB ns at_ with
    | false =>
      clear hT
      go_wp2_with fail
      go_ret
      exact ⟨rfl, hB4⟩
    | true =>
      obtain ⟨j, rfl, hj, hjt⟩ := thereB_true hT
      have hq : ns[j]? = some ns[j] := List.getElem?_eq_getElem hj
      obtain ⟨b, off, QA, qc, rfl, hkv, n0, n1, n2, n3, _, _⟩ := (HM.out.keep hC4).at hq
      by_cases hk : ns[j].kind = kJoin
      · have HJ := Lib.hid (show kindOf ns[j].kind = some .join by rw [hk]; decide)
        have HQ := Lib.hid (And.intro hq hjt)
        rw [hk] at n0
        simp only [kJoin] at n0
        clear hkv n1 n2 n3 hT hq hk hjt
        go_wp2_with fail
        refine (implIsNode _ ns kv j _ _ _ (HN.out.keep hB4) HL.out HKD.out HQ.out.2 HQ.out.1 HJ.out (by decide)).mono ?_
        rintro e w5 ⟨rfl, hb⟩
        have hB5 := below_after hB4 hb
        have hC5 := below_after hC4 hb
        clear hb
        go_wp2_with fail
        refine (specMade_any _ ns kv _ (HM.out.keep hC5) HL.out HKD.out).mono ?_
        intro e w6 hm
        obtain ⟨gi6, gk6, ks6, rfl, hF, hb⟩ := SpecMade.fval hm (HM.out.keep hC5)
        have HF6 := Lib.hid hF
        clear hm hF
        have hB6 := below_after hB5 hb
        have hC6 := below_after hC5 hb
        clear hb
        go_wp2_with fail
        refine (isNode_f ns _ nc kv gi6 gk6 ks6 HTR.out j hj _ HF6.out).mono ?_
        rintro e w7 ⟨rfl, hb⟩
        have hB7 := below_after hB6 hb
        have hC7 := below_after hC6 hb
        clear hb
        rw [specHit_eq]
        generalize nodeHit ns j = b
        cases b
        all_goals
          go_wp2_with fail
          go_ret
          exact ⟨rfl, hB7⟩
      · have t1 := toList_ne hk
        clear hkv n1 n2 n3 hT hq hk hjt
        go_wp2_with fail
        go_ret
        exact ⟨rfl, hB4⟩

set_option maxRecDepth 100000 in
set_option maxHeartbeats 4000000 in
theorem wFnExactIsNode (v : Value) (ns : List Nd) (kv : Nat → Value) (at_ : Int) (w : World) (h : Nodes w v ns kv) (hr : ns.length * 64 ≤ 140737488351232) :
    Calls Try.prog 7 #[v, .int .i64 at_] w fun e w' => e = .returned (.bool true) ∧ Below w.heap.size w w' := by
  obtain ⟨A, cap, rfl, _, hcm⟩ := h.form
  simp only [maxLen] at hcm
  have HN := Lib.hid h
  clear h
  go_enter Try.func7, Try.ntmps7
  go_wp2_with fail
  refine (specNodes_any _ ns kv _ HN.out hr).mono ?_
  rintro e w1 ⟨v1, rfl, hn1, hb⟩
  obtain ⟨NA, nc, rfl, _, hncm⟩ := hn1.form
  simp only [maxLen] at hncm
  have HM := Lib.hid hn1
  have hB1 := hb
  have hC1 : Below w1.heap.size w1 w1 := Below.refl _ _
  clear hn1 hb
  go_wp2_with fail
  refine (large_f _ ns kv _ (HM.out.keep hC1)).mono ?_
  rintro e w2 ⟨bl, rfl, hsm, hb⟩
  have hB2 := below_after hB1 hb
  have hC2 := below_after hC1 hb
  clear hb
  have HSM := Lib.hid hsm
  clear hsm
  cases bl with
  | true =>
    clear HSM
    go_wp2_with fail
    go_ret
    exact ⟨rfl, hB2⟩
  | false =>
    have HS := Lib.hid (HSM.out rfl)
    clear HSM
    have HL := Lib.hid (show ns.length ≤ 68719476736 by have := HS.out.len; omega)
    have HKD := Lib.hid (show ∀ nd ∈ ns, nd.kids.length ≤ 68719476736 from fun nd hnd => by have := (HS.out.each nd hnd).1; omega)
    have HTR := Lib.hid (show ∀ j, j < ns.length → treeLen ns j ≤ 1073741824 from fun j hj => by have := HS.out.tree j hj; omega)
    go_wp2_with fail
    refine (specMade_any _ ns kv _ (HM.out.keep hC2) HL.out HKD.out).mono ?_
    intro e w3 hm
    obtain ⟨gi3, gk3, ks3, rfl, hF, hb⟩ := SpecMade.fval hm (HM.out.keep hC2)
    have HF3 := Lib.hid hF
    clear hm hF
    have hB3 := below_after hB2 hb
    have hC3 := below_after hC2 hb
    clear hb
    go_wp2_with fail
    refine (there_f ns NA nc kv gi3 gk3 ks3 0 _ HF3.out).mono ?_
    rintro e w4 ⟨rfl, hb⟩
    have hB4 := below_after hB3 hb
    have hC4 := below_after hC3 hb
    clear hb
    rw [thereB_zero]
    cases hT0 : isThere ns 0 with
    | false =>
      clear hT0
      go_wp2_with fail
      go_ret
      exact ⟨rfl, hB4⟩
    | true =>
      clear hT0
      go_wp2_with fail
      refine (specMade_any _ ns kv _ (HM.out.keep hC4) HL.out HKD.out).mono ?_
      intro e w5 hm
      obtain ⟨gi5, gk5, ks5, rfl, hF, hb⟩ := SpecMade.fval hm (HM.out.keep hC4)
      have HF5 := Lib.hid hF
      clear hm hF
      have hB5 := below_after hB4 hb
      have hC5 := below_after hC4 hb
      clear hb
      go_wp2_with fail
      refine (there_f ns NA nc kv gi5 gk5 ks5 at_ _ HF5.out).mono ?_
      rintro e w6 ⟨rfl, hb⟩
      have hB6 := below_after hB5 hb
      have hC6 := below_after hC5 hb
      clear hb
      cases hT : thereB ns at_ with
      | false =>
        clear hT
        go_wp2_with fail
        go_ret
        exact ⟨rfl, hB6⟩
      | true =>
        obtain ⟨j, rfl, hj, hjt⟩ := thereB_true hT
        have hq : ns[j]? = some ns[j] := List.getElem?_eq_getElem hj
        obtain ⟨b, off, QA, qc, rfl, hkv, n0, n1, n2, n3, _, _⟩ := (HM.out.keep hC6).at hq
        by_cases hkl : ns[j].kind = kList
        · rw [hkl] at n0
          simp only [kList] at n0
          clear hkv n1 n2 n3 hT hq hkl hjt
          go_wp2_with fail
          go_ret
          exact ⟨rfl, hB6⟩
        have tl := toList_ne hkl
        by_cases hkj : ns[j].kind = kJoin
        · rw [hkj] at n0
          simp only [kJoin] at n0
          clear hkv n1 n2 n3 hT hq hkl hjt hkj tl
          go_wp2_with fail
          go_ret
          exact ⟨rfl, hB6⟩
        have tj := toList_ne hkj
        obtain ⟨nd, k, hnd, hkd⟩ := isThere_kind hjt
        have hne : k ≠ .list := by
          rintro rfl
          rw [hq] at hnd
          injection hnd with hnd
          subst hnd
          exact hkl (word_of_kind hkd)
        have HQ := Lib.hid (And.intro hjt (And.intro hnd (And.intro hkd hne)))
        clear hkv n1 n2 n3 hT hq hkl hkj hjt hnd hkd hne
        go_wp2_with fail
        refine (implIsNode _ ns kv j _ _ _ (HN.out.keep hB6) HL.out HKD.out HQ.out.1 HQ.out.2.1 HQ.out.2.2.1 HQ.out.2.2.2).mono ?_
        rintro e w7 ⟨rfl, hb⟩
        have hB7 := below_after hB6 hb
        have hC7 := below_after hC6 hb
        clear hb
        go_wp2_with fail
        refine (specMade_any _ ns kv _ (HM.out.keep hC7) HL.out HKD.out).mono ?_
        intro e w8 hm
        obtain ⟨gi8, gk8, ks8, rfl, hF, hb⟩ := SpecMade.fval hm (HM.out.keep hC7)
        have HF8 := Lib.hid hF
        clear hm hF
        have hB8 := below_after hB7 hb
        have hC8 := below_after hC7 hb
        clear hb
        go_wp2_with fail
        refine (isNode_f ns _ nc kv gi8 gk8 ks8 HTR.out j hj _ HF8.out).mono ?_
        rintro e w9 ⟨rfl, hb⟩
        have hB9 := below_after hB8 hb
        have hC9 := below_after hC8 hb
        clear hb
        rw [specHit_eq]
        generalize nodeHit ns j = b
        cases b
        all_goals
          go_wp2_with fail
          go_ret
          exact ⟨rfl, hB9⟩

end Go.Proofs.Ytlbmmeloggnogaa
