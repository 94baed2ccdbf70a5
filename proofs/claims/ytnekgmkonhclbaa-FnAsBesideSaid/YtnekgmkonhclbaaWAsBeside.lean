/-
  The walk of the law FnAsBeside: it returns true.
  Conditions: none but that the bytes are bytes.
-/
import Derived.Test.YtnekgmkonhclbaaWAsAbove
namespace Go.Proofs.Ytnekgmkonhclbaa
open Go.RowKit Go.Lib

/-- What the values of two and of their join say. -/
theorem beside_says {a b c : Option Int} (h : c = a.or b) : (a.isSome = true → c.isSome = true ∧ c.getD 0 = a.getD 0) ∧ (a.isSome = false → c.isSome = b.isSome ∧ c.getD 0 = b.getD 0) := by
  subst h
  cases a <;> cases b <;> simp

set_option maxRecDepth 100000 in
set_option maxHeartbeats 8000000 in
theorem wFnAsBeside (w : World) (cv : Value) (cl : List Int) (hv : Vals w cv (cl.map (.int .u8))) (hr : ∀ c ∈ cl, 0 ≤ c ∧ c ≤ 255) :
    Calls Try.prog 3 #[cv] w fun e w' => e = .returned (.bool true) ∧ Below w.heap.size w w' := by
  obtain ⟨A, cap, rfl, hlc, hcm⟩ := hv.form
  simp only [List.length_map] at *
  have HV := Lib.hid hv
  have HR := Lib.hid hr
  clear hv hr
  by_cases hbig : 1048576 < cl.length
  · go_enter Try.func3, Try.ntmps3
    go_wp2_with fail
    refine (large_any _ _ _ _).mono ?_
    rintro e w1 ⟨rfl, rfl⟩
    go_wp2_with fail
    go_ret
    exact ⟨rfl, Below.refl _ _⟩
  · have hd : decide (1048576 < cl.length) = false := by simpa using hbig
    go_enter Try.func3, Try.ntmps3
    go_wp2_with fail
    refine (large_any _ _ _ _).mono ?_
    rintro e w1 ⟨rfl, rfl⟩
    rw [hd]
    clear hd
    go_wp2_with fail
    refine (drawAsValue_any w _ cl HV.out HR.out (by omega)).mono ?_
    rintro e w1 ⟨v1, ns1, kv1, rfl, hn1, hd1, hb⟩
    have hB1 := hb
    clear hb
    obtain ⟨N1A, N1c, rfl, _, N1m⟩ := hn1.form
    simp only [maxLen] at N1m
    have N1 := Lib.hid hn1
    clear hn1
    have HF1 := Lib.hid (Fewer.drawn hd1)
    clear hd1
    have hC1 : Below w1.heap.size w1 w1 := Below.refl _ _
    have q1 : (0 : Int) ≤ (cl.length : Int) / 2 := by omega
    have q2 : (cl.length : Int) / 2 ≤ (cap : Int) := by omega
    simp only [maxLen] at hcm
    have hv2 := Vals.drop (Vals.keep HV.out hB1) (cl.length / 2) (by omega)
    rw [← List.map_drop] at hv2
    have hr2 : ∀ c ∈ cl.drop (cl.length / 2), 0 ≤ c ∧ c ≤ 255 := fun c hc => HR.out c (List.mem_of_mem_drop hc)
    have HR2 := Lib.hid hr2
    have hl2 : (cl.drop (cl.length / 2)).length ≤ 1048576 := by simp; omega
    clear hr2
    by_cases hcap : cap = cl.length / 2
    · rw [if_pos hcap] at hv2
      have hl0 : cl.length = 0 := by omega
      obtain rfl : cl = [] := List.eq_nil_of_length_eq_zero hl0
      obtain rfl : cap = 0 := by simpa using hcap
      clear hcap hl0
      simp only [List.length_nil, Nat.zero_div, List.drop_nil, Nat.sub_zero] at hv2
      have V2 := Lib.hid hv2
      clear hv2
      simp only [List.length_nil]
      go_wp2_with fail
      refine (drawAsValue_any _ _ [] V2.out (by simp) (by simp)).mono ?_
      rintro e w2 ⟨v2, ns2, kv2, rfl, hn2, hd2, hb⟩
      have hB2 := below_after hB1 hb
      have hC2 := below_after hC1 hb
      clear hb
      obtain ⟨N2A, N2c, rfl, _, N2m⟩ := hn2.form
      simp only [maxLen] at N2m
      have N2 := Lib.hid hn2
      clear hn2
      have HF2 := Lib.hid (Fewer.drawn hd2)
      clear hd2
      have hD2 : Below w2.heap.size w2 w2 := Below.refl _ _
      go_wp2_with fail
      refine (implNodes_any _ ns1 kv1 _ (N1.out.keep hC2) (HF1.out.l64 (by omega))).mono ?_
      rintro e w3 ⟨v3, rfl, hn3, hb⟩
      have hB3 := below_after hB2 hb
      have hC3 := below_after hC2 hb
      have hD3 := below_after hD2 hb
      clear hb
      obtain ⟨N3A, N3c, rfl, _, N3m⟩ := hn3.form
      simp only [maxLen] at N3m
      have N3 := Lib.hid hn3
      clear hn3
      go_wp2_with fail
      refine (cut_any _ ns1 kv1 _ N3.out (HF1.out.few (by omega) (by omega)).len (HF1.out.few (by omega) (by omega)).kids).mono ?_
      rintro e w4 ⟨v4, kv4, rfl, hn4, hb⟩
      have hB4 := below_after hB3 hb
      have hC4 := below_after hC3 hb
      have hD4 := below_after hD3 hb
      have hn4' := hn4.nodes
      clear hn4
      clear hb
      obtain ⟨N4A, N4c, rfl, _, N4m⟩ := hn4'.form
      simp only [maxLen] at N4m
      have N4 := Lib.hid hn4'
      clear hn4'
      have hG4 : Below w4.heap.size w4 w4 := Below.refl _ _
      go_wp2_with fail
      refine (implNodes_any _ ns2 kv2 _ (N2.out.keep hD4) (HF2.out.l64 (by omega))).mono ?_
      rintro e w5 ⟨v5, rfl, hn5, hb⟩
      have hB5 := below_after hB4 hb
      have hC5 := below_after hC4 hb
      have hD5 := below_after hD4 hb
      have hG5 := below_after hG4 hb
      clear hb
      obtain ⟨N5A, N5c, rfl, _, N5m⟩ := hn5.form
      simp only [maxLen] at N5m
      have N5 := Lib.hid hn5
      clear hn5
      go_wp2_with fail
      refine (cut_any _ ns2 kv2 _ N5.out (HF2.out.few (by omega) (by omega)).len (HF2.out.few (by omega) (by omega)).kids).mono ?_
      rintro e w6 ⟨v6, kv6, rfl, hn6, hb⟩
      have hB6 := below_after hB5 hb
      have hC6 := below_after hC5 hb
      have hD6 := below_after hD5 hb
      have hG6 := below_after hG5 hb
      have hn6' := hn6.nodes
      clear hn6
      clear hb
      obtain ⟨N6A, N6c, rfl, _, N6m⟩ := hn6'.form
      simp only [maxLen] at N6m
      have N6 := Lib.hid hn6'
      clear hn6'
      have hH6 : Below w6.heap.size w6 w6 := Below.refl _ _
      have HA := Lib.hid (And.intro (cutN_cutted ns1) HF1.out.cut)
      have HB := Lib.hid (And.intro (cutN_cutted ns2) HF2.out.cut)
      clear HF1 HF2 N1 N2 N3 N5 V2
      generalize cutN ns1 = a at *
      generalize cutN ns2 = b at *
      have FA := Lib.hid (HA.out.2.few (by omega) (by omega))
      have FB := Lib.hid (HB.out.2.few (by omega) (by omega))
      have HAB := Lib.hid (key_beside_acts (a := a) HB.out.1 (by have := HA.out.2.1; omega) FB.out.len)
      have FAB := Lib.hid (And.intro ((HA.out.2.besideC HB.out.2 (by omega)).few (by omega) (by omega)) (And.intro ((HA.out.2.above (by omega) kActs).few (by omega) (by omega)) (((HA.out.2.above (by omega) kActs).besideC HB.out.2 (by omega)).few (by omega) (by omega))))
      have hsay := beside_says (key_beside HA.out.1 HB.out.1 FA.out.len FB.out.len)
      obtain ⟨z1, h1⟩ : ∃ z, (asKey (besideN a b)).getD 0 = z := ⟨_, rfl⟩
      obtain ⟨y1, h2⟩ : ∃ z, (asKey (besideN a b)).isSome = z := ⟨_, rfl⟩
      obtain ⟨za, h3⟩ : ∃ z, (asKey a).getD 0 = z := ⟨_, rfl⟩
      obtain ⟨ya, h4⟩ : ∃ z, (asKey a).isSome = z := ⟨_, rfl⟩
      obtain ⟨zb, h5⟩ : ∃ z, (asKey b).getD 0 = z := ⟨_, rfl⟩
      obtain ⟨yb, h6⟩ : ∃ z, (asKey b).isSome = z := ⟨_, rfl⟩
      rw [h1, h2, h3, h4, h5, h6] at hsay
      have HZ := Lib.hid (And.intro h1 (And.intro h2 (And.intro h3 (And.intro h4 (And.intro h5 (And.intro h6 hsay))))))
      clear h1 h2 h3 h4 h5 h6 hsay
      go_wp2_with fail
      refine (beside_any _ _ a b kv4 kv6 _ (N4.out.keep hG6) (N6.out.keep hH6) FA.out.len FB.out.len FA.out.kids FB.out.kids).mono ?_
      rintro e w7 ⟨z7, kz7, rfl, hz7, hb⟩
      have hB7 := below_after hB6 hb
      have hC7 := below_after hC6 hb
      have hD7 := below_after hD6 hb
      have hG7 := below_after hG6 hb
      have hH7 := below_after hH6 hb
      have hz7' := hz7.nodes
      clear hz7
      clear hb
      obtain ⟨Z7A, Z7c, rfl, _, Z7m⟩ := hz7'.form
      simp only [maxLen] at Z7m
      have Z7 := Lib.hid hz7'
      clear hz7'
      go_wp2_with fail
      refine (asVf Z7.out FAB.out.1).mono ?_
      rintro e w8 ⟨rfl, hb⟩
      have hB8 := below_after hB7 hb
      have hC8 := below_after hC7 hb
      have hD8 := below_after hD7 hb
      have hG8 := below_after hG7 hb
      have hH8 := below_after hH7 hb
      rw [HZ.out.1, HZ.out.2.1]
      clear hb
      go_wp2_with fail
      refine (asVf (N4.out.keep hG8) FA.out).mono ?_
      rintro e w9 ⟨rfl, hb⟩
      have hB9 := below_after hB8 hb
      have hC9 := below_after hC8 hb
      have hD9 := below_after hD8 hb
      have hG9 := below_after hG8 hb
      have hH9 := below_after hH8 hb
      rw [HZ.out.2.2.1, HZ.out.2.2.2.1]
      clear hb
      go_wp2_with fail
      refine (asVf (N6.out.keep hH9) FB.out).mono ?_
      rintro e w10 ⟨rfl, hb⟩
      have hB10 := below_after hB9 hb
      have hC10 := below_after hC9 hb
      have hD10 := below_after hD9 hb
      have hG10 := below_after hG9 hb
      have hH10 := below_after hH9 hb
      rw [HZ.out.2.2.2.2.1, HZ.out.2.2.2.2.2.1]
      clear hb
      go_wp2_with fail
      refine (above_none kActs _ a kv4 _ (N4.out.keep hG10) FA.out.len FA.out.kids).mono ?_
      rintro e w11 ⟨z8, kz8, rfl, hz8, hb⟩
      have hB11 := below_after hB10 hb
      have hC11 := below_after hC10 hb
      have hD11 := below_after hD10 hb
      have hG11 := below_after hG10 hb
      have hH11 := below_after hH10 hb
      have hz8' := hz8.nodes
      clear hz8
      clear hb
      obtain ⟨Z8A, Z8c, rfl, _, Z8m⟩ := hz8'.form
      simp only [maxLen] at Z8m
      have Z8 := Lib.hid hz8'
      clear hz8'
      go_wp2_with fail
      refine (beside_any _ _ (aboveN kActs a []) b kz8 kv6 _ Z8.out (N6.out.keep hH11) FAB.out.2.1.len FB.out.len FAB.out.2.1.kids FB.out.kids).mono ?_
      rintro e w12 ⟨z9, kz9, rfl, hz9, hb⟩
      have hB12 := below_after hB11 hb
      have hC12 := below_after hC11 hb
      have hD12 := below_after hD11 hb
      have hG12 := below_after hG11 hb
      have hH12 := below_after hH11 hb
      have hz9' := hz9.nodes
      clear hz9
      clear hb
      obtain ⟨Z9A, Z9c, rfl, _, Z9m⟩ := hz9'.form
      simp only [maxLen] at Z9m
      have Z9 := Lib.hid hz9'
      clear hz9'
      go_wp2_with fail
      refine (asVf Z9.out FAB.out.2.2).mono ?_
      rintro e w13 ⟨rfl, hb⟩
      have hB13 := below_after hB12 hb
      have hC13 := below_after hC12 hb
      have hD13 := below_after hD12 hb
      have hG13 := below_after hG12 hb
      have hH13 := below_after hH12 hb
      rw [HAB.out]
      simp only [Option.getD_some, Option.isSome_some]
      clear hb
      have hS := HZ.out.2.2.2.2.2.2
      clear HZ HAB
      cases ya with
      | false =>
        obtain ⟨rfl, rfl⟩ := hS.2 rfl
        clear hS
        cases y1
        all_goals
          go_wp2_with fail
          go_ret
          exact ⟨rfl, hB13⟩
      | true =>
        obtain ⟨rfl, rfl⟩ := hS.1 rfl
        clear hS
        go_wp2_with fail
        go_ret
        exact ⟨rfl, hB13⟩
    · rw [if_neg hcap] at hv2
      have V2 := Lib.hid hv2
      clear hv2
      go_wp2_with fail
      refine (drawAsValue_any _ _ (cl.drop (cl.length / 2)) V2.out HR2.out hl2).mono ?_
      rintro e w2 ⟨v2, ns2, kv2, rfl, hn2, hd2, hb⟩
      have hB2 := below_after hB1 hb
      have hC2 := below_after hC1 hb
      clear hb
      obtain ⟨N2A, N2c, rfl, _, N2m⟩ := hn2.form
      simp only [maxLen] at N2m
      have N2 := Lib.hid hn2
      clear hn2
      have HF2 := Lib.hid (Fewer.drawn hd2)
      clear hd2
      have hD2 : Below w2.heap.size w2 w2 := Below.refl _ _
      go_wp2_with fail
      refine (implNodes_any _ ns1 kv1 _ (N1.out.keep hC2) (HF1.out.l64 (by omega))).mono ?_
      rintro e w3 ⟨v3, rfl, hn3, hb⟩
      have hB3 := below_after hB2 hb
      have hC3 := below_after hC2 hb
      have hD3 := below_after hD2 hb
      clear hb
      obtain ⟨N3A, N3c, rfl, _, N3m⟩ := hn3.form
      simp only [maxLen] at N3m
      have N3 := Lib.hid hn3
      clear hn3
      go_wp2_with fail
      refine (cut_any _ ns1 kv1 _ N3.out (HF1.out.few (by omega) (by omega)).len (HF1.out.few (by omega) (by omega)).kids).mono ?_
      rintro e w4 ⟨v4, kv4, rfl, hn4, hb⟩
      have hB4 := below_after hB3 hb
      have hC4 := below_after hC3 hb
      have hD4 := below_after hD3 hb
      have hn4' := hn4.nodes
      clear hn4
      clear hb
      obtain ⟨N4A, N4c, rfl, _, N4m⟩ := hn4'.form
      simp only [maxLen] at N4m
      have N4 := Lib.hid hn4'
      clear hn4'
      have hG4 : Below w4.heap.size w4 w4 := Below.refl _ _
      go_wp2_with fail
      refine (implNodes_any _ ns2 kv2 _ (N2.out.keep hD4) (HF2.out.l64 (by omega))).mono ?_
      rintro e w5 ⟨v5, rfl, hn5, hb⟩
      have hB5 := below_after hB4 hb
      have hC5 := below_after hC4 hb
      have hD5 := below_after hD4 hb
      have hG5 := below_after hG4 hb
      clear hb
      obtain ⟨N5A, N5c, rfl, _, N5m⟩ := hn5.form
      simp only [maxLen] at N5m
      have N5 := Lib.hid hn5
      clear hn5
      go_wp2_with fail
      refine (cut_any _ ns2 kv2 _ N5.out (HF2.out.few (by omega) (by omega)).len (HF2.out.few (by omega) (by omega)).kids).mono ?_
      rintro e w6 ⟨v6, kv6, rfl, hn6, hb⟩
      have hB6 := below_after hB5 hb
      have hC6 := below_after hC5 hb
      have hD6 := below_after hD5 hb
      have hG6 := below_after hG5 hb
      have hn6' := hn6.nodes
      clear hn6
      clear hb
      obtain ⟨N6A, N6c, rfl, _, N6m⟩ := hn6'.form
      simp only [maxLen] at N6m
      have N6 := Lib.hid hn6'
      clear hn6'
      have hH6 : Below w6.heap.size w6 w6 := Below.refl _ _
      have HA := Lib.hid (And.intro (cutN_cutted ns1) HF1.out.cut)
      have HB := Lib.hid (And.intro (cutN_cutted ns2) HF2.out.cut)
      clear HF1 HF2 N1 N2 N3 N5 V2 HR2 hl2
      generalize cutN ns1 = a at *
      generalize cutN ns2 = b at *
      have FA := Lib.hid (HA.out.2.few (by omega) (by omega))
      have FB := Lib.hid (HB.out.2.few (by omega) (by omega))
      have HAB := Lib.hid (key_beside_acts (a := a) HB.out.1 (by have := HA.out.2.1; omega) FB.out.len)
      have FAB := Lib.hid (And.intro ((HA.out.2.besideC HB.out.2 (by omega)).few (by omega) (by omega)) (And.intro ((HA.out.2.above (by omega) kActs).few (by omega) (by omega)) (((HA.out.2.above (by omega) kActs).besideC HB.out.2 (by omega)).few (by omega) (by omega))))
      have hsay := beside_says (key_beside HA.out.1 HB.out.1 FA.out.len FB.out.len)
      obtain ⟨z1, h1⟩ : ∃ z, (asKey (besideN a b)).getD 0 = z := ⟨_, rfl⟩
      obtain ⟨y1, h2⟩ : ∃ z, (asKey (besideN a b)).isSome = z := ⟨_, rfl⟩
      obtain ⟨za, h3⟩ : ∃ z, (asKey a).getD 0 = z := ⟨_, rfl⟩
      obtain ⟨ya, h4⟩ : ∃ z, (asKey a).isSome = z := ⟨_, rfl⟩
      obtain ⟨zb, h5⟩ : ∃ z, (asKey b).getD 0 = z := ⟨_, rfl⟩
      obtain ⟨yb, h6⟩ : ∃ z, (asKey b).isSome = z := ⟨_, rfl⟩
      rw [h1, h2, h3, h4, h5, h6] at hsay
      have HZ := Lib.hid (And.intro h1 (And.intro h2 (And.intro h3 (And.intro h4 (And.intro h5 (And.intro h6 hsay))))))
      clear h1 h2 h3 h4 h5 h6 hsay
      go_wp2_with fail
      refine (beside_any _ _ a b kv4 kv6 _ (N4.out.keep hG6) (N6.out.keep hH6) FA.out.len FB.out.len FA.out.kids FB.out.kids).mono ?_
      rintro e w7 ⟨z7, kz7, rfl, hz7, hb⟩
      have hB7 := below_after hB6 hb
      have hC7 := below_after hC6 hb
      have hD7 := below_after hD6 hb
      have hG7 := below_after hG6 hb
      have hH7 := below_after hH6 hb
      have hz7' := hz7.nodes
      clear hz7
      clear hb
      obtain ⟨Z7A, Z7c, rfl, _, Z7m⟩ := hz7'.form
      simp only [maxLen] at Z7m
      have Z7 := Lib.hid hz7'
      clear hz7'
      go_wp2_with fail
      refine (asVf Z7.out FAB.out.1).mono ?_
      rintro e w8 ⟨rfl, hb⟩
      have hB8 := below_after hB7 hb
      have hC8 := below_after hC7 hb
      have hD8 := below_after hD7 hb
      have hG8 := below_after hG7 hb
      have hH8 := below_after hH7 hb
      rw [HZ.out.1, HZ.out.2.1]
      clear hb
      go_wp2_with fail
      refine (asVf (N4.out.keep hG8) FA.out).mono ?_
      rintro e w9 ⟨rfl, hb⟩
      have hB9 := below_after hB8 hb
      have hC9 := below_after hC8 hb
      have hD9 := below_after hD8 hb
      have hG9 := below_after hG8 hb
      have hH9 := below_after hH8 hb
      rw [HZ.out.2.2.1, HZ.out.2.2.2.1]
      clear hb
      go_wp2_with fail
      refine (asVf (N6.out.keep hH9) FB.out).mono ?_
      rintro e w10 ⟨rfl, hb⟩
      have hB10 := below_after hB9 hb
      have hC10 := below_after hC9 hb
      have hD10 := below_after hD9 hb
      have hG10 := below_after hG9 hb
      have hH10 := below_after hH9 hb
      rw [HZ.out.2.2.2.2.1, HZ.out.2.2.2.2.2.1]
      clear hb
      go_wp2_with fail
      refine (above_none kActs _ a kv4 _ (N4.out.keep hG10) FA.out.len FA.out.kids).mono ?_
      rintro e w11 ⟨z8, kz8, rfl, hz8, hb⟩
      have hB11 := below_after hB10 hb
      have hC11 := below_after hC10 hb
      have hD11 := below_after hD10 hb
      have hG11 := below_after hG10 hb
      have hH11 := below_after hH10 hb
      have hz8' := hz8.nodes
      clear hz8
      clear hb
      obtain ⟨Z8A, Z8c, rfl, _, Z8m⟩ := hz8'.form
      simp only [maxLen] at Z8m
      have Z8 := Lib.hid hz8'
      clear hz8'
      go_wp2_with fail
      refine (beside_any _ _ (aboveN kActs a []) b kz8 kv6 _ Z8.out (N6.out.keep hH11) FAB.out.2.1.len FB.out.len FAB.out.2.1.kids FB.out.kids).mono ?_
      rintro e w12 ⟨z9, kz9, rfl, hz9, hb⟩
      have hB12 := below_after hB11 hb
      have hC12 := below_after hC11 hb
      have hD12 := below_after hD11 hb
      have hG12 := below_after hG11 hb
      have hH12 := below_after hH11 hb
      have hz9' := hz9.nodes
      clear hz9
      clear hb
      obtain ⟨Z9A, Z9c, rfl, _, Z9m⟩ := hz9'.form
      simp only [maxLen] at Z9m
      have Z9 := Lib.hid hz9'
      clear hz9'
      go_wp2_with fail
      refine (asVf Z9.out FAB.out.2.2).mono ?_
      rintro e w13 ⟨rfl, hb⟩
      have hB13 := below_after hB12 hb
      have hC13 := below_after hC12 hb
      have hD13 := below_after hD12 hb
      have hG13 := below_after hG12 hb
      have hH13 := below_after hH12 hb
      rw [HAB.out]
      simp only [Option.getD_some, Option.isSome_some]
      clear hb
      have hS := HZ.out.2.2.2.2.2.2
      clear HZ HAB
      cases ya with
      | false =>
        obtain ⟨rfl, rfl⟩ := hS.2 rfl
        clear hS
        cases y1
        all_goals
          go_wp2_with fail
          go_ret
          exact ⟨rfl, hB13⟩
      | true =>
        obtain ⟨rfl, rfl⟩ := hS.1 rfl
        clear hS
        go_wp2_with fail
        go_ret
        exact ⟨rfl, hB13⟩

end Go.Proofs.Ytnekgmkonhclbaa
