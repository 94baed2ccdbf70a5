/-
  The walks of the laws FnExactAsValue, FnExactAsWrap and FnExactAsMany: they return true.
  Conditions: the nodes take at most 2^47 - 4096 bytes.
-/
import Derived.Test.YtnekgmkonhclbaaNodes
import Derived.Test.YtnekgmkonhclbaaSpecLarge
import Derived.Test.YtnekgmkonhclbaaImplAs
namespace Go.Proofs.Ytnekgmkonhclbaa
open Go.RowKit Go.Lib

theorem thereB_zero (ns : List Nd) : thereB ns 0 = isThere ns 0 := by simp [thereB]

set_option maxRecDepth 100000 in
set_option maxHeartbeats 4000000 in
theorem wFnExactAsValue (v : Value) (ns : List Nd) (kv : Nat → Value) (w : World) (h : Nodes w v ns kv) (hr : ns.length * 64 ≤ 140737488351232) :
    Calls Try.prog 4 #[v] w fun e w' => e = .returned (.bool true) ∧ Below w.heap.size w w' := by
  obtain ⟨A, cap, rfl, _, hcm⟩ := h.form
  simp only [maxLen] at hcm
  have HN := Lib.hid h
  clear h
  go_enter Try.func4, Try.ntmps4
  go_wp2_with fail
  refine (specNodes_any _ ns kv _ HN.out hr).mono ?_
  rintro e w1 ⟨v1, rfl, hn1, hb⟩
  obtain ⟨NA, nc, rfl, _, hncm⟩ := hn1.form
  simp only [maxLen] at hncm
  have HM := Lib.hid hn1
  have hB1 := hb
  have hC1 : Below w1.heap.size w1 w1 := Below.refl _ _
  clear hn1 hb
  go_wp2_with fail
  refine (large_f _ ns kv _ (HM.out.keep hC1)).mono ?_
  rintro e w2 ⟨bl, rfl, hsm, hb⟩
  have hB2 := below_after hB1 hb
  have hC2 := below_after hC1 hb
  clear hb
  have HSM := Lib.hid hsm
  clear hsm
  cases bl with
  | true =>
    clear HSM
    go_wp2_with fail
    go_ret
    exact ⟨rfl, hB2⟩
  | false =>
    have HS := Lib.hid (HSM.out rfl)
    clear HSM
    have HL := Lib.hid (show ns.length ≤ 68719476736 by have := HS.out.len; omega)
    have HKD := Lib.hid (show ∀ nd ∈ ns, nd.kids.length ≤ 68719476736 from fun nd hnd => by have := (HS.out.each nd hnd).1; omega)
    have HTR := Lib.hid (show ∀ j, j < ns.length → treeLen ns j ≤ 1073741824 from fun j hj => by have := HS.out.tree j hj; omega)
    go_wp2_with fail
    refine (joins_any _ ns kv _ (HM.out.keep hC2) HS.out.len (fun nd h => (HS.out.each nd h).1)).mono ?_
    rintro e w3 ⟨⟨jb, rfl⟩, hb⟩
    have hB3 := below_after hB2 hb
    have hC3 := below_after hC2 hb
    clear hb
    cases jb with
    | true =>
      go_wp2_with fail
      go_ret
      exact ⟨rfl, hB3⟩
    | false =>
      go_wp2_with fail
      refine (specMade_any _ ns kv _ (HM.out.keep hC3) HL.out HKD.out).mono ?_
      intro e w4 hm
      obtain ⟨gi4, gk4, ks4, rfl, hF, hb⟩ := SpecMade.fval hm (HM.out.keep hC3)
      have HF4 := Lib.hid hF
      clear hm hF
      have hB4 := below_after hB3 hb
      have hC4 := below_after hC3 hb
      clear hb
      go_wp2_with fail
      refine (there_f ns NA nc kv gi4 gk4 ks4 0 _ HF4.out).mono ?_
      rintro e w5 ⟨rfl, hb⟩
      have hB5 := below_after hB4 hb
      have hC5 := below_after hC4 hb
      clear hb
      rw [thereB_zero]
      cases hT : isThere ns 0 with
      | false =>
        clear hT
        go_wp2_with fail
        go_ret
        exact ⟨rfl, hB5⟩
      | true =>
        clear hT
        go_wp2_with fail
        refine (implAsValue _ ns kv _ (HN.out.keep hB5) HL.out HKD.out).mono ?_
        rintro e w6 ⟨rfl, hb⟩
        have hB6 := below_after hB5 hb
        have hC6 := below_after hC5 hb
        clear hb
        go_wp2_with fail
        refine (specMade_any _ ns kv _ (HM.out.keep hC6) HL.out HKD.out).mono ?_
        intro e w7 hm
        obtain ⟨gi7, gk7, ks7, rfl, hF, hb⟩ := SpecMade.fval hm (HM.out.keep hC6)
        have HF7 := Lib.hid hF
        clear hm hF
        have hB7 := below_after hB6 hb
        have hC7 := below_after hC6 hb
        clear hb
        go_wp2_with fail
        refine (asValue_f ns NA nc kv gi7 gk7 ks7 HTR.out _ HF7.out).mono ?_
        rintro e w8 ⟨rfl, hb⟩
        have hB8 := below_after hB7 hb
        have hC8 := below_after hC7 hb
        clear hb
        generalize (asKey ns).getD 0 = z
        generalize (asKey ns).isSome = y
        cases y
        all_goals
          go_wp2_with fail
          go_ret
          exact ⟨rfl, hB8⟩

set_option maxRecDepth 100000 in
set_option maxHeartbeats 4000000 in
theorem wFnExactAsWrap (v : Value) (ns : List Nd) (kv : Nat → Value) (w : World) (h : Nodes w v ns kv) (hr : ns.length * 64 ≤ 140737488351232) :
    Calls Try.prog 6 #[v] w fun e w' => e = .returned (.bool true) ∧ Below w.heap.size w w' := by
  obtain ⟨A, cap, rfl, _, hcm⟩ := h.form
  simp only [maxLen] at hcm
  have HN := Lib.hid h
  clear h
  go_enter Try.func6, Try.ntmps6
  go_wp2_with fail
  refine (specNodes_any _ ns kv _ HN.out hr).mono ?_
  rintro e w1 ⟨v1, rfl, hn1, hb⟩
  obtain ⟨NA, nc, rfl, _, hncm⟩ := hn1.form
  simp only [maxLen] at hncm
  have HM := Lib.hid hn1
  have hB1 := hb
  have hC1 : Below w1.heap.size w1 w1 := Below.refl _ _
  clear hn1 hb
  go_wp2_with fail
  refine (large_f _ ns kv _ (HM.out.keep hC1)).mono ?_
  rintro e w2 ⟨bl, rfl, hsm, hb⟩
  have hB2 := below_after hB1 hb
  have hC2 := below_after hC1 hb
  clear hb
  have HSM := Lib.hid hsm
  clear hsm
  cases bl with
  | true =>
    clear HSM
    go_wp2_with fail
    go_ret
    exact ⟨rfl, hB2⟩
  | false =>
    have HS := Lib.hid (HSM.out rfl)
    clear HSM
    have HL := Lib.hid (show ns.length ≤ 68719476736 by have := HS.out.len; omega)
    have HKD := Lib.hid (show ∀ nd ∈ ns, nd.kids.length ≤ 68719476736 from fun nd hnd => by have := (HS.out.each nd hnd).1; omega)
    have HTR := Lib.hid (show ∀ j, j < ns.length → treeLen ns j ≤ 1073741824 from fun j hj => by have := HS.out.tree j hj; omega)
    go_wp2_with fail
    refine (joins_any _ ns kv _ (HM.out.keep hC2) HS.out.len (fun nd h => (HS.out.each nd h).1)).mono ?_
    rintro e w3 ⟨⟨jb, rfl⟩, hb⟩
    have hB3 := below_after hB2 hb
    have hC3 := below_after hC2 hb
    clear hb
    cases jb with
    | true =>
      go_wp2_with fail
      go_ret
      exact ⟨rfl, hB3⟩
    | false =>
      go_wp2_with fail
      refine (specMade_any _ ns kv _ (HM.out.keep hC3) HL.out HKD.out).mono ?_
      intro e w4 hm
      obtain ⟨gi4, gk4, ks4, rfl, hF, hb⟩ := SpecMade.fval hm (HM.out.keep hC3)
      have HF4 := Lib.hid hF
      clear hm hF
      have hB4 := below_after hB3 hb
      have hC4 := below_after hC3 hb
      clear hb
      go_wp2_with fail
      refine (there_f ns NA nc kv gi4 gk4 ks4 0 _ HF4.out).mono ?_
      rintro e w5 ⟨rfl, hb⟩
      have hB5 := below_after hB4 hb
      have hC5 := below_after hC4 hb
      clear hb
      rw [thereB_zero]
      cases hT : isThere ns 0 with
      | false =>
        clear hT
        go_wp2_with fail
        go_ret
        exact ⟨rfl, hB5⟩
      | true =>
        clear hT
        go_wp2_with fail
        refine (implAsWrap _ ns kv _ (HN.out.keep hB5) HL.out HKD.out).mono ?_
        rintro e w6 ⟨rfl, hb⟩
        have hB6 := below_after hB5 hb
        have hC6 := below_after hC5 hb
        clear hb
        go_wp2_with fail
        refine (specMade_any _ ns kv _ (HM.out.keep hC6) HL.out HKD.out).mono ?_
        intro e w7 hm
        obtain ⟨gi7, gk7, ks7, rfl, hF, hb⟩ := SpecMade.fval hm (HM.out.keep hC6)
        have HF7 := Lib.hid hF
        clear hm hF
        have hB7 := below_after hB6 hb
        have hC7 := below_after hC6 hb
        clear hb
        go_wp2_with fail
        refine (asKind_f ns NA nc kv gi7 gk7 ks7 HTR.out kWrap _ HF7.out).mono ?_
        rintro e w8 ⟨rfl, hb⟩
        have hB8 := below_after hB7 hb
        have hC8 := below_after hC7 hb
        clear hb
        generalize ((asIx ns kWrap).map fun (j : Nat) => (j : Int)).getD (-1) = z
        generalize (asIx ns kWrap).isSome = y
        cases y
        all_goals
          go_wp2_with fail
          go_ret
          exact ⟨rfl, hB8⟩

set_option maxRecDepth 100000 in
set_option maxHeartbeats 4000000 in
theorem wFnExactAsMany (v : Value) (ns : List Nd) (kv : Nat → Value) (w : World) (h : Nodes w v ns kv) (hr : ns.length * 64 ≤ 140737488351232) :
    Calls Try.prog 5 #[v] w fun e w' => e = .returned (.bool true) ∧ Below w.heap.size w w' := by
  obtain ⟨A, cap, rfl, _, hcm⟩ := h.form
  simp only [maxLen] at hcm
  have HN := Lib.hid h
  clear h
  go_enter Try.func5, Try.ntmps5
  go_wp2_with fail
  refine (specNodes_any _ ns kv _ HN.out hr).mono ?_
  rintro e w1 ⟨v1, rfl, hn1, hb⟩
  obtain ⟨NA, nc, rfl, _, hncm⟩ := hn1.form
  simp only [maxLen] at hncm
  have HM := Lib.hid hn1
  have hB1 := hb
  have hC1 : Below w1.heap.size w1 w1 := Below.refl _ _
  clear hn1 hb
  go_wp2_with fail
  refine (large_f _ ns kv _ (HM.out.keep hC1)).mono ?_
  rintro e w2 ⟨bl, rfl, hsm, hb⟩
  have hB2 := below_after hB1 hb
  have hC2 := below_after hC1 hb
  clear hb
  have HSM := Lib.hid hsm
  clear hsm
  cases bl with
  | true =>
    clear HSM
    go_wp2_with fail
    go_ret
    exact ⟨rfl, hB2⟩
  | false =>
    have HS := Lib.hid (HSM.out rfl)
    clear HSM
    have HL := Lib.hid (show ns.length ≤ 68719476736 by have := HS.out.len; omega)
    have HKD := Lib.hid (show ∀ nd ∈ ns, nd.kids.length ≤ 68719476736 from fun nd hnd => by have := (HS.out.each nd hnd).1; omega)
    have HTR := Lib.hid (show ∀ j, j < ns.length → treeLen ns j ≤ 1073741824 from fun j hj => by have := HS.out.tree j hj; omega)
    go_wp2_with fail
    refine (joins_any _ ns kv _ (HM.out.keep hC2) HS.out.len (fun nd h => (HS.out.each nd h).1)).mono ?_
    rintro e w3 ⟨⟨jb, rfl⟩, hb⟩
    have hB3 := below_after hB2 hb
    have hC3 := below_after hC2 hb
    clear hb
    cases jb with
    | true =>
      go_wp2_with fail
      go_ret
      exact ⟨rfl, hB3⟩
    | false =>
      go_wp2_with fail
      refine (specMade_any _ ns kv _ (HM.out.keep hC3) HL.out HKD.out).mono ?_
      intro e w4 hm
      obtain ⟨gi4, gk4, ks4, rfl, hF, hb⟩ := SpecMade.fval hm (HM.out.keep hC3)
      have HF4 := Lib.hid hF
      clear hm hF
      have hB4 := below_after hB3 hb
      have hC4 := below_after hC3 hb
      clear hb
      go_wp2_with fail
      refine (there_f ns NA nc kv gi4 gk4 ks4 0 _ HF4.out).mono ?_
      rintro e w5 ⟨rfl, hb⟩
      have hB5 := below_after hB4 hb
      have hC5 := below_after hC4 hb
      clear hb
      rw [thereB_zero]
      cases hT : isThere ns 0 with
      | false =>
        clear hT
        go_wp2_with fail
        go_ret
        exact ⟨rfl, hB5⟩
      | true =>
        clear hT
        go_wp2_with fail
        refine (implAsMany _ ns kv _ (HN.out.keep hB5) HL.out HKD.out).mono ?_
        rintro e w6 ⟨rfl, hb⟩
        have hB6 := below_after hB5 hb
        have hC6 := below_after hC5 hb
        clear hb
        go_wp2_with fail
        refine (specMade_any _ ns kv _ (HM.out.keep hC6) HL.out HKD.out).mono ?_
        intro e w7 hm
        obtain ⟨gi7, gk7, ks7, rfl, hF, hb⟩ := SpecMade.fval hm (HM.out.keep hC6)
        have HF7 := Lib.hid hF
        clear hm hF
        have hB7 := below_after hB6 hb
        have hC7 := below_after hC6 hb
        clear hb
        go_wp2_with fail
        refine (asKind_f ns NA nc kv gi7 gk7 ks7 HTR.out kMany _ HF7.out).mono ?_
        rintro e w8 ⟨rfl, hb⟩
        have hB8 := below_after hB7 hb
        have hC8 := below_after hC7 hb
        clear hb
        generalize ((asIx ns kMany).map fun (j : Nat) => (j : Int)).getD (-1) = z
        generalize (asIx ns kMany).isSome = y
        cases y
        all_goals
          go_wp2_with fail
          go_ret
          exact ⟨rfl, hB8⟩

end Go.Proofs.Ytnekgmkonhclbaa
