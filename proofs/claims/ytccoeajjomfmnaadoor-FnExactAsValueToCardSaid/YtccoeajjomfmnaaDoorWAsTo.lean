/-
  The walks of the laws FnExactAsValueTo, FnExactAsWrapTo and FnAsRoads: they return true.
  Conditions: the variable errors.errorType holds the handle of the type error; the nodes take at most 2^47 - 4096 bytes.
-/
import Derived.Test.YtccoeajjomfmnaaDoorNodes
import Derived.Test.YtccoeajjomfmnaaDoorSpecLarge
import Derived.Test.YtccoeajjomfmnaaDoorImplAsTo
import Derived.Test.YtccoeajjomfmnaaDoorDrawIsValue
import Derived.Test.YtccoeajjomfmnaaDoorFew
import Derived.Test.YtccoeajjomfmnaaDoorLarge
namespace Go.Proofs.YtccoeajjomfmnaaDoor
open Go.RowKit Go.Lib

theorem thereB_zero (ns : List Nd) : thereB ns 0 = isThere ns 0 := by simp [thereB]

set_option maxRecDepth 100000 in
set_option maxHeartbeats 4000000 in
theorem wFnExactAsValueTo (v : Value) (ns : List Nd) (kv : Nat → Value) (before : Int) (w : World) (h : Nodes w v ns kv) (hE : ErrT w) (hr : ns.length * 64 ≤ 140737488351232) :
    Calls Tryd.prog 4 #[v, .int .i64 before] w fun e w' => e = .returned (.bool true) ∧ Below w.heap.size w w' := by
  obtain ⟨A, cap, rfl, _, hcm⟩ := h.form
  simp only [maxLen] at hcm
  have HN := Lib.hid h
  have HG := Lib.hid hE
  clear h hE
  go_enter Tryd.func4, Tryd.ntmps4
  go_wp2_with fail
  refine (specNodes_any _ ns kv _ HN.out hr).mono ?_
  rintro e w1 ⟨v1, rfl, hn1, hb⟩
  obtain ⟨NA, nc, rfl, _, hncm⟩ := hn1.form
  simp only [maxLen] at hncm
  have HM := Lib.hid hn1
  have hB1 := hb
  have hC1 : Below w1.heap.size w1 w1 := Below.refl _ _
  clear hn1 hb
  go_wp2_with fail
  refine (large_f _ ns kv _ (HM.out.keep hC1)).mono ?_
  rintro e w2 ⟨bl, rfl, hsm, hb⟩
  have hB2 := below_after hB1 hb
  have hC2 := below_after hC1 hb
  clear hb
  have HSM := Lib.hid hsm
  clear hsm
  cases bl with
  | true =>
    clear HSM
    go_wp2_with fail
    go_ret
    exact ⟨rfl, hB2⟩
  | false =>
    have HS := Lib.hid (HSM.out rfl)
    clear HSM
    have HL := Lib.hid (show ns.length ≤ 68719476736 by have := HS.out.len; omega)
    have HKD := Lib.hid (show ∀ nd ∈ ns, nd.kids.length ≤ 68719476736 from fun nd hnd => by have := (HS.out.each nd hnd).1; omega)
    have HTR := Lib.hid (show ∀ j, j < ns.length → treeLen ns j ≤ 1073741824 from fun j hj => by have := HS.out.tree j hj; omega)
    go_wp2_with fail
    refine (joins_any _ ns kv _ (HM.out.keep hC2) HS.out.len (fun nd h => (HS.out.each nd h).1)).mono ?_
    rintro e w3 ⟨⟨jb, rfl⟩, hb⟩
    have hB3 := below_after hB2 hb
    have hC3 := below_after hC2 hb
    clear hb
    cases jb with
    | true =>
      go_wp2_with fail
      go_ret
      exact ⟨rfl, hB3⟩
    | false =>
      go_wp2_with fail
      refine (specMade_any _ ns kv _ (HM.out.keep hC3) HL.out HKD.out).mono ?_
      intro e w4 hm
      obtain ⟨gi4, gk4, ks4, rfl, hF, hb⟩ := SpecMade.fval hm (HM.out.keep hC3)
      have HF4 := Lib.hid hF
      clear hm hF
      have hB4 := below_after hB3 hb
      have hC4 := below_after hC3 hb
      clear hb
      go_wp2_with fail
      refine (there_f ns NA nc kv gi4 gk4 ks4 0 _ HF4.out).mono ?_
      rintro e w5 ⟨rfl, hb⟩
      have hB5 := below_after hB4 hb
      have hC5 := below_after hC4 hb
      clear hb
      rw [thereB_zero]
      cases hT : isThere ns 0 with
      | false =>
        clear hT
        go_wp2_with fail
        go_ret
        exact ⟨rfl, hB5⟩
      | true =>
        clear hT
        go_wp2_with fail
        refine (implAsValueTo _ ns kv before _ (HN.out.keep hB5) (HG.out.keep hB5) HL.out HKD.out).mono ?_
        rintro e w6 ⟨rfl, hb⟩
        have hB6 := below_after hB5 hb
        have hC6 := below_after hC5 hb
        clear hb
        go_wp2_with fail
        refine (specMade_any _ ns kv _ (HM.out.keep hC6) HL.out HKD.out).mono ?_
        intro e w7 hm
        obtain ⟨gi7, gk7, ks7, rfl, hF, hb⟩ := SpecMade.fval hm (HM.out.keep hC6)
        have HF7 := Lib.hid hF
        clear hm hF
        have hB7 := below_after hB6 hb
        have hC7 := below_after hC6 hb
        clear hb
        go_wp2_with fail
        refine (asValue_f ns NA nc kv gi7 gk7 ks7 HTR.out _ HF7.out).mono ?_
        rintro e w8 ⟨rfl, hb⟩
        have hB8 := below_after hB7 hb
        have hC8 := below_after hC7 hb
        clear hb
        cases asKey ns
        all_goals
          simp only [Option.getD_some, Option.getD_none, Option.isSome_some, Option.isSome_none]
          go_wp2_with fail
          go_ret
          exact ⟨rfl, hB8⟩

set_option maxRecDepth 100000 in
set_option maxHeartbeats 4000000 in
theorem wFnExactAsWrapTo (v : Value) (ns : List Nd) (kv : Nat → Value) (w : World) (h : Nodes w v ns kv) (hE : ErrT w) (hr : ns.length * 64 ≤ 140737488351232) :
    Calls Tryd.prog 5 #[v] w fun e w' => e = .returned (.bool true) ∧ Below w.heap.size w w' := by
  obtain ⟨A, cap, rfl, _, hcm⟩ := h.form
  simp only [maxLen] at hcm
  have HN := Lib.hid h
  have HG := Lib.hid hE
  clear h hE
  go_enter Tryd.func5, Tryd.ntmps5
  go_wp2_with fail
  refine (specNodes_any _ ns kv _ HN.out hr).mono ?_
  rintro e w1 ⟨v1, rfl, hn1, hb⟩
  obtain ⟨NA, nc, rfl, _, hncm⟩ := hn1.form
  simp only [maxLen] at hncm
  have HM := Lib.hid hn1
  have hB1 := hb
  have hC1 : Below w1.heap.size w1 w1 := Below.refl _ _
  clear hn1 hb
  go_wp2_with fail
  refine (large_f _ ns kv _ (HM.out.keep hC1)).mono ?_
  rintro e w2 ⟨bl, rfl, hsm, hb⟩
  have hB2 := below_after hB1 hb
  have hC2 := below_after hC1 hb
  clear hb
  have HSM := Lib.hid hsm
  clear hsm
  cases bl with
  | true =>
    clear HSM
    go_wp2_with fail
    go_ret
    exact ⟨rfl, hB2⟩
  | false =>
    have HS := Lib.hid (HSM.out rfl)
    clear HSM
    have HL := Lib.hid (show ns.length ≤ 68719476736 by have := HS.out.len; omega)
    have HKD := Lib.hid (show ∀ nd ∈ ns, nd.kids.length ≤ 68719476736 from fun nd hnd => by have := (HS.out.each nd hnd).1; omega)
    have HTR := Lib.hid (show ∀ j, j < ns.length → treeLen ns j ≤ 1073741824 from fun j hj => by have := HS.out.tree j hj; omega)
    go_wp2_with fail
    refine (joins_any _ ns kv _ (HM.out.keep hC2) HS.out.len (fun nd h => (HS.out.each nd h).1)).mono ?_
    rintro e w3 ⟨⟨jb, rfl⟩, hb⟩
    have hB3 := below_after hB2 hb
    have hC3 := below_after hC2 hb
    clear hb
    cases jb with
    | true =>
      go_wp2_with fail
      go_ret
      exact ⟨rfl, hB3⟩
    | false =>
      go_wp2_with fail
      refine (specMade_any _ ns kv _ (HM.out.keep hC3) HL.out HKD.out).mono ?_
      intro e w4 hm
      obtain ⟨gi4, gk4, ks4, rfl, hF, hb⟩ := SpecMade.fval hm (HM.out.keep hC3)
      have HF4 := Lib.hid hF
      clear hm hF
      have hB4 := below_after hB3 hb
      have hC4 := below_after hC3 hb
      clear hb
      go_wp2_with fail
      refine (there_f ns NA nc kv gi4 gk4 ks4 0 _ HF4.out).mono ?_
      rintro e w5 ⟨rfl, hb⟩
      have hB5 := below_after hB4 hb
      have hC5 := below_after hC4 hb
      clear hb
      rw [thereB_zero]
      cases hT : isThere ns 0 with
      | false =>
        clear hT
        go_wp2_with fail
        go_ret
        exact ⟨rfl, hB5⟩
      | true =>
        clear hT
        go_wp2_with fail
        refine (implAsWrapTo _ ns kv _ (HN.out.keep hB5) (HG.out.keep hB5) HL.out HKD.out).mono ?_
        rintro e w6 ⟨rfl, hb⟩
        have hB6 := below_after hB5 hb
        have hC6 := below_after hC5 hb
        clear hb
        go_wp2_with fail
        refine (specMade_any _ ns kv _ (HM.out.keep hC6) HL.out HKD.out).mono ?_
        intro e w7 hm
        obtain ⟨gi7, gk7, ks7, rfl, hF, hb⟩ := SpecMade.fval hm (HM.out.keep hC6)
        have HF7 := Lib.hid hF
        clear hm hF
        have hB7 := below_after hB6 hb
        have hC7 := below_after hC6 hb
        clear hb
        go_wp2_with fail
        refine (asKind_f ns NA nc kv gi7 gk7 ks7 HTR.out kWrap _ HF7.out).mono ?_
        rintro e w8 ⟨rfl, hb⟩
        have hB8 := below_after hB7 hb
        have hC8 := below_after hC7 hb
        clear hb
        generalize ((asIx ns kWrap).map fun (j : Nat) => (j : Int)).getD (-1) = z
        generalize (asIx ns kWrap).isSome = y
        cases y
        all_goals
          go_wp2_with fail
          go_ret
          exact ⟨rfl, hB8⟩

set_option maxHeartbeats 1000000 in
theorem drawAsValueTo_any (w : World) (cv : Value) (cl : List Int) (hv : Vals w cv (cl.map (.int .u8))) (hr : ∀ c ∈ cl, 0 ≤ c ∧ c ≤ 255) (hs : cl.length ≤ 1048576) :
    Calls Tryd.prog 8 #[cv] w fun e w' => ∃ v ns kv key, e = .returned (.tuple #[v, .int .i64 key]) ∧ Nodes w' v ns kv ∧ Drawn8 ns ∧ Below w.heap.size w w' := by
  have HD := Lib.hid (drawIsValue_any w cv cl hv hr hs)
  obtain ⟨A, cap, hcv, _, _⟩ := hv.form
  rw [List.length_map] at hcv
  subst hcv
  clear hv hr
  go_enter Tryd.func8, Tryd.ntmps8
  go_wp2_with fail
  refine HD.out.mono ?_
  rintro e w1 ⟨v, ns, kv, key, rfl, _, hn, hd, hb⟩
  have HS := Lib.hid (And.intro hn (And.intro hd hb))
  obtain ⟨B, capB, rfl, _, _⟩ := hn.form
  clear hn hd hb
  go_wp2_with fail
  go_ret2
  exact ⟨_, ns, kv, key, rfl, HS.out.1, HS.out.2.1, HS.out.2.2⟩

set_option maxRecDepth 100000 in
set_option maxHeartbeats 8000000 in
theorem wFnAsRoads (w : World) (cv : Value) (cl : List Int) (hv : Vals w cv (cl.map (.int .u8))) (hr : ∀ c ∈ cl, 0 ≤ c ∧ c ≤ 255) (hE : ErrT w) :
    Calls Tryd.prog 3 #[cv] w fun e w' => e = .returned (.bool true) ∧ Below w.heap.size w w' := by
  obtain ⟨A, cap, rfl, hlc, hcm⟩ := hv.form
  simp only [List.length_map] at *
  have HV := Lib.hid hv
  have HR := Lib.hid hr
  have HG := Lib.hid hE
  clear hv hr hE
  by_cases hbig : 1048576 < cl.length
  · go_enter Tryd.func3, Tryd.ntmps3
    go_wp2_with fail
    refine (large_any _ _ _ _).mono ?_
    rintro e w1 ⟨rfl, rfl⟩
    go_wp2_with fail
    go_ret
    exact ⟨rfl, Below.refl _ _⟩
  · have hd : decide (1048576 < cl.length) = false := by simpa using hbig
    go_enter Tryd.func3, Tryd.ntmps3
    go_wp2_with fail
    refine (large_any _ _ _ _).mono ?_
    rintro e w1 ⟨rfl, rfl⟩
    rw [hd]
    clear hd
    go_wp2_with fail
    refine (drawAsValueTo_any w _ cl HV.out HR.out (by omega)).mono ?_
    rintro e w1 ⟨v1, ns, kv1, before, rfl, hn1, hd8, hb⟩
    have hB1 := hb
    clear hb
    obtain ⟨N1A, N1c, rfl, _, N1m⟩ := hn1.form
    simp only [maxLen] at N1m
    have N1 := Lib.hid hn1
    clear hn1
    have HF := Lib.hid ((Fewer.drawn hd8).few (by omega) (by omega))
    have H64 := Lib.hid ((Fewer.drawn hd8).l64 (by omega))
    clear hd8
    go_wp2_with fail
    refine (implNodes_any _ ns kv1 _ N1.out H64.out).mono ?_
    rintro e w2 ⟨v2, rfl, hn2, hb⟩
    have hB2 := below_after hB1 hb
    clear hb
    obtain ⟨N2A, N2c, rfl, _, N2m⟩ := hn2.form
    simp only [maxLen] at N2m
    have N2 := Lib.hid hn2
    clear hn2
    have hD2 : Below w2.heap.size w2 w2 := Below.refl _ _
    have HX := Lib.hid (show ((asKey ns).isSome = true → (asKey ns).getD before = (asKey ns).getD 0) ∧ ((asKey ns).isSome = false → (asKey ns).getD before = before ∧ (asKey ns).getD 0 = 0) by cases asKey ns <;> simp)
    obtain ⟨z0, h1⟩ : ∃ z, (asKey ns).getD 0 = z := ⟨_, rfl⟩
    obtain ⟨zb, h2⟩ : ∃ z, (asKey ns).getD before = z := ⟨_, rfl⟩
    obtain ⟨y, h3⟩ : ∃ z, (asKey ns).isSome = z := ⟨_, rfl⟩
    obtain ⟨zw, h4⟩ : ∃ z, ((asIx ns kWrap).map fun (j : Nat) => (j : Int)).getD (-1) = z := ⟨_, rfl⟩
    obtain ⟨yw, h5⟩ : ∃ z, (asIx ns kWrap).isSome = z := ⟨_, rfl⟩
    have HZ := Lib.hid (And.intro h1 (And.intro h2 (And.intro h3 (And.intro h4 h5))))
    rw [h1, h2, h3] at HX
    clear h1 h2 h3 h4 h5
    go_wp2_with fail
    refine (implAsValue _ _ _ _ N2.out HF.out.len' HF.out.kids').mono ?_
    rintro e w3 ⟨rfl, hb⟩
    have hB3 := below_after hB2 hb
    have hD3 := below_after hD2 hb
    rw [HZ.out.1, HZ.out.2.2.1]
    clear hb
    go_wp2_with fail
    refine (implAsValueTo _ _ _ before _ (N2.out.keep hD3) (HG.out.keep hB3) HF.out.len' HF.out.kids').mono ?_
    rintro e w4 ⟨rfl, hb⟩
    have hB4 := below_after hB3 hb
    have hD4 := below_after hD3 hb
    rw [HZ.out.2.1, HZ.out.2.2.1]
    clear hb
    go_wp2_with fail
    refine (implAsWrap _ _ _ _ (N2.out.keep hD4) HF.out.len' HF.out.kids').mono ?_
    rintro e w5 ⟨rfl, hb⟩
    have hB5 := below_after hB4 hb
    have hD5 := below_after hD4 hb
    rw [HZ.out.2.2.2.1, HZ.out.2.2.2.2]
    clear hb
    go_wp2_with fail
    refine (implAsWrapTo _ _ _ _ (N2.out.keep hD5) (HG.out.keep hB5) HF.out.len' HF.out.kids').mono ?_
    rintro e w6 ⟨rfl, hb⟩
    have hB6 := below_after hB5 hb
    have hD6 := below_after hD5 hb
    rw [HZ.out.2.2.2.1, HZ.out.2.2.2.2]
    clear hb
    have hX := HX.out
    clear HX HZ
    cases y with
    | false =>
      obtain ⟨rfl, rfl⟩ := hX.2 rfl
      clear hX
      cases yw
      all_goals
        go_wp2_with fail
        go_ret
        exact ⟨rfl, hB6⟩
    | true =>
      obtain rfl := hX.1 rfl
      clear hX
      cases yw
      all_goals
        go_wp2_with fail
        go_ret
        exact ⟨rfl, hB6⟩

end Go.Proofs.YtccoeajjomfmnaaDoor
