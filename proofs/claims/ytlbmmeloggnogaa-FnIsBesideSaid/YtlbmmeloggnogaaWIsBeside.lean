/-
  The walk of the law FnIsBeside: it returns true.
  Conditions: none but that the bytes are bytes.
-/
import Derived.Test.YtlbmmeloggnogaaWIsAbove
namespace Go.Proofs.Ytlbmmeloggnogaa
open Go.RowKit Go.Lib

theorem beside_cut (a b : List Nd) : besideN a b = besideN (cutN a) b := by
  unfold besideN
  rw [cutN_id (cutN_cutted a), cutN_length]
theorem is_root_alike {ns : List Nd} {nd : Nd} (h : ns[0]? = some nd) (hk : nd.kind = kAlike) (h9 : nd.key = 9) : (rootTree ns).any (hitVal ns 9) = true := by
  have ht : isThere ns 0 = true := by
    rw [isThere_eq ns 0 nd h, hk]
    rfl
  unfold rootTree
  rw [if_pos ht, treeOf_eq ns 0 (lt_of_get h), List.any_cons]
  have : hitVal ns 9 0 = true := by
    unfold hitVal
    rw [h]
    simp [hk, h9]
  rw [this]
  rfl
theorem is_beside_alike {a b : List Nd} (hb : Cutted b) (hla : a.length ≤ 1048575) (hlb : b.length ≤ 1048576) :
    (rootTree (besideN (aboveN kAlike a []) b)).any (hitVal (besideN (aboveN kAlike a []) b) 9) = true := by
  rw [beside_cut, is_beside (cutN_cutted _) hb (by rw [cutN_length]; simp [aboveN]; omega) hlb]
  have hn : (cutN (aboveN kAlike a []))[0]? = some (cutNd (aboveN kAlike a []).length ⟨kAlike, 9, kAbove, [1]⟩) := rfl
  rw [is_root_alike hn rfl rfl]
  rfl
theorem Fewer.besideC {n m k : Nat} {a b : List Nd} (ha : Fewer n k a) (hb : Fewer m k b) (hk : 2 ≤ k) : Fewer (1 + n + m) k (besideN a b) := by
  rw [beside_cut]
  exact ha.cut.beside hb hk (cutN_cutted a)

set_option maxRecDepth 100000 in
set_option maxHeartbeats 8000000 in
theorem wFnIsBeside (w : World) (cv : Value) (cl : List Int) (hv : Vals w cv (cl.map (.int .u8))) (hr : ∀ c ∈ cl, 0 ≤ c ∧ c ≤ 255) :
    Calls Try.prog 5 #[cv] w fun e w' => e = .returned (.bool true) ∧ Below w.heap.size w w' := by
  obtain ⟨A, cap, rfl, hlc, hcm⟩ := hv.form
  simp only [List.length_map] at *
  have HV := Lib.hid hv
  have HR := Lib.hid hr
  clear hv hr
  by_cases hbig : 1048576 < cl.length
  · go_enter Try.func5, Try.ntmps5
    go_wp2_with fail
    refine (large_any _ _ _ _).mono ?_
    rintro e w1 ⟨rfl, rfl⟩
    go_wp2_with fail
    go_ret
    exact ⟨rfl, Below.refl _ _⟩
  · have hd : decide (1048576 < cl.length) = false := by simpa using hbig
    go_enter Try.func5, Try.ntmps5
    go_wp2_with fail
    refine (large_any _ _ _ _).mono ?_
    rintro e w1 ⟨rfl, rfl⟩
    rw [hd]
    clear hd
    go_wp2_with fail
    refine (drawIsValue_any w _ cl HV.out HR.out (by omega)).mono ?_
    rintro e w1 ⟨v1, ns1, kv1, key, rfl, hk9, hn1, hd1, hb⟩
    have hB1 := hb
    clear hb
    obtain ⟨N1A, N1c, rfl, _, N1m⟩ := hn1.form
    simp only [maxLen] at N1m
    have N1 := Lib.hid hn1
    clear hn1
    have HF1 := Lib.hid (Fewer.drawn hd1)
    clear hd1 hk9
    have hC1 : Below w1.heap.size w1 w1 := Below.refl _ _
    have q1 : (0 : Int) ≤ (cl.length : Int) / 2 := by omega
    have q2 : (cl.length : Int) / 2 ≤ (cap : Int) := by omega
    simp only [maxLen] at hcm
    have hv2 := Vals.drop (Vals.keep HV.out hB1) (cl.length / 2) (by omega)
    rw [← List.map_drop] at hv2
    have hr2 : ∀ c ∈ cl.drop (cl.length / 2), 0 ≤ c ∧ c ≤ 255 := fun c hc => HR.out c (List.mem_of_mem_drop hc)
    have HR2 := Lib.hid hr2
    have hl2 : (cl.drop (cl.length / 2)).length ≤ 1048576 := by simp; omega
    clear hr2
    by_cases hcap : cap = cl.length / 2
    · rw [if_pos hcap] at hv2
      have hl0 : cl.length = 0 := by omega
      obtain rfl : cl = [] := List.eq_nil_of_length_eq_zero hl0
      obtain rfl : cap = 0 := by simpa using hcap
      clear hcap hl0
      simp only [List.length_nil, Nat.zero_div, List.drop_nil, Nat.sub_zero] at hv2
      have V2 := Lib.hid hv2
      clear hv2
      simp only [List.length_nil]
      go_wp2_with fail
      refine (drawIsValue_any _ _ [] V2.out (by simp) (by simp)).mono ?_
      rintro e w2 ⟨v2, ns2, kv2, key2, rfl, _, hn2, hd2, hb⟩
      have hB2 := below_after hB1 hb
      have hC2 := below_after hC1 hb
      clear hb
      obtain ⟨N2A, N2c, rfl, _, N2m⟩ := hn2.form
      simp only [maxLen] at N2m
      have N2 := Lib.hid hn2
      clear hn2
      have HF2 := Lib.hid (Fewer.drawn hd2)
      clear hd2
      have hD2 : Below w2.heap.size w2 w2 := Below.refl _ _
      go_wp2_with fail
      refine (implNodes_any _ ns1 kv1 _ (N1.out.keep hC2) (HF1.out.l64 (by omega))).mono ?_
      rintro e w3 ⟨v3, rfl, hn3, hb⟩
      have hB3 := below_after hB2 hb
      have hC3 := below_after hC2 hb
      have hD3 := below_after hD2 hb
      clear hb
      obtain ⟨N3A, N3c, rfl, _, N3m⟩ := hn3.form
      simp only [maxLen] at N3m
      have N3 := Lib.hid hn3
      clear hn3
      go_wp2_with fail
      refine (cut_any _ ns1 kv1 _ N3.out (HF1.out.few (by omega) (by omega)).len (HF1.out.few (by omega) (by omega)).kids).mono ?_
      rintro e w4 ⟨v4, kv4, rfl, hn4, hb⟩
      have hB4 := below_after hB3 hb
      have hC4 := below_after hC3 hb
      have hD4 := below_after hD3 hb
      have hn4' := hn4.nodes
      clear hn4
      clear hb
      obtain ⟨N4A, N4c, rfl, _, N4m⟩ := hn4'.form
      simp only [maxLen] at N4m
      have N4 := Lib.hid hn4'
      clear hn4'
      have hG4 : Below w4.heap.size w4 w4 := Below.refl _ _
      go_wp2_with fail
      refine (implNodes_any _ ns2 kv2 _ (N2.out.keep hD4) (HF2.out.l64 (by omega))).mono ?_
      rintro e w5 ⟨v5, rfl, hn5, hb⟩
      have hB5 := below_after hB4 hb
      have hC5 := below_after hC4 hb
      have hD5 := below_after hD4 hb
      have hG5 := below_after hG4 hb
      clear hb
      obtain ⟨N5A, N5c, rfl, _, N5m⟩ := hn5.form
      simp only [maxLen] at N5m
      have N5 := Lib.hid hn5
      clear hn5
      go_wp2_with fail
      refine (cut_any _ ns2 kv2 _ N5.out (HF2.out.few (by omega) (by omega)).len (HF2.out.few (by omega) (by omega)).kids).mono ?_
      rintro e w6 ⟨v6, kv6, rfl, hn6, hb⟩
      have hB6 := below_after hB5 hb
      have hC6 := below_after hC5 hb
      have hD6 := below_after hD5 hb
      have hG6 := below_after hG5 hb
      have hn6' := hn6.nodes
      clear hn6
      clear hb
      obtain ⟨N6A, N6c, rfl, _, N6m⟩ := hn6'.form
      simp only [maxLen] at N6m
      have N6 := Lib.hid hn6'
      clear hn6'
      have hH6 : Below w6.heap.size w6 w6 := Below.refl _ _
      have HA := Lib.hid (And.intro (cutN_cutted ns1) HF1.out.cut)
      have HB := Lib.hid (And.intro (cutN_cutted ns2) HF2.out.cut)
      clear HF1 HF2 N1 N2 N3 N5 V2
      generalize cutN ns1 = a at *
      generalize cutN ns2 = b at *
      have FA := Lib.hid (HA.out.2.few (by omega) (by omega))
      have FB := Lib.hid (HB.out.2.few (by omega) (by omega))
      have HAB := Lib.hid (And.intro (is_beside HA.out.1 HB.out.1 FA.out.len FB.out.len key) (And.intro (is_beside HB.out.1 HA.out.1 FB.out.len FA.out.len key) (is_beside_alike (a := a) HB.out.1 (by have := HA.out.2.1; omega) FB.out.len)))
      have FAB := Lib.hid (And.intro ((HA.out.2.besideC HB.out.2 (by omega)).few (by omega) (by omega)) (And.intro ((HB.out.2.besideC HA.out.2 (by omega)).few (by omega) (by omega)) (And.intro ((HA.out.2.above (by omega) kAlike).few (by omega) (by omega)) (((HA.out.2.above (by omega) kAlike).besideC HB.out.2 (by omega)).few (by omega) (by omega)))))
      generalize hpa : (rootTree a).any (hitVal a key) = pa at *
      generalize hpb : (rootTree b).any (hitVal b key) = pb at *
      have HP := Lib.hid (And.intro hpa hpb)
      clear hpa hpb
      go_wp2_with fail
      refine (beside_any _ _ a b kv4 kv6 _ (N4.out.keep hG6) (N6.out.keep hH6) FA.out.len FB.out.len FA.out.kids FB.out.kids).mono ?_
      rintro e w7 ⟨z1, kz1, rfl, hz1, hb⟩
      have hB7 := below_after hB6 hb
      have hC7 := below_after hC6 hb
      have hD7 := below_after hD6 hb
      have hG7 := below_after hG6 hb
      have hH7 := below_after hH6 hb
      have hz1' := hz1.nodes
      clear hz1
      clear hb
      obtain ⟨Z1A, Z1c, rfl, _, Z1m⟩ := hz1'.form
      simp only [maxLen] at Z1m
      have Z1 := Lib.hid hz1'
      clear hz1'
      go_wp2_with fail
      refine (isV key Z1.out FAB.out.1).mono ?_
      rintro e w8 ⟨rfl, hb⟩
      have hB8 := below_after hB7 hb
      have hC8 := below_after hC7 hb
      have hD8 := below_after hD7 hb
      have hG8 := below_after hG7 hb
      have hH8 := below_after hH7 hb
      rw [HAB.out.1]
      clear hb
      go_wp2_with fail
      refine (isV key (N4.out.keep hG8) FA.out).mono ?_
      rintro e w9 ⟨rfl, hb⟩
      have hB9 := below_after hB8 hb
      have hC9 := below_after hC8 hb
      have hD9 := below_after hD8 hb
      have hG9 := below_after hG8 hb
      have hH9 := below_after hH8 hb
      rw [HP.out.1]
      clear hb
      cases pa with
      | false =>
        go_wp2_with fail
        refine (isV key (N6.out.keep hH9) FB.out).mono ?_
        rintro e w10 ⟨rfl, hb⟩
        have hB10 := below_after hB9 hb
        have hC10 := below_after hC9 hb
        have hD10 := below_after hD9 hb
        have hG10 := below_after hG9 hb
        have hH10 := below_after hH9 hb
        rw [HP.out.2]
        clear hb
        cases pb
        all_goals
          simp only [Bool.or_true, Bool.or_false] at HAB ⊢
          go_wp2_with fail
          refine (beside_any _ _ b a kv6 kv4 _ (N6.out.keep hH10) (N4.out.keep hG10) FB.out.len FA.out.len FB.out.kids FA.out.kids).mono ?_
          rintro e w11 ⟨z2, kz2, rfl, hz2, hb⟩
          have hB11 := below_after hB10 hb
          have hC11 := below_after hC10 hb
          have hD11 := below_after hD10 hb
          have hG11 := below_after hG10 hb
          have hH11 := below_after hH10 hb
          have hz2' := hz2.nodes
          clear hz2
          clear hb
          obtain ⟨Z2A, Z2c, rfl, _, Z2m⟩ := hz2'.form
          simp only [maxLen] at Z2m
          have Z2 := Lib.hid hz2'
          clear hz2'
          go_wp2_with fail
          refine (isV key Z2.out FAB.out.2.1).mono ?_
          rintro e w12 ⟨rfl, hb⟩
          have hB12 := below_after hB11 hb
          have hC12 := below_after hC11 hb
          have hD12 := below_after hD11 hb
          have hG12 := below_after hG11 hb
          have hH12 := below_after hH11 hb
          rw [HAB.out.2.1]
          clear hb
          go_wp2_with fail
          refine (beside_any _ _ a b kv4 kv6 _ (N4.out.keep hG12) (N6.out.keep hH12) FA.out.len FB.out.len FA.out.kids FB.out.kids).mono ?_
          rintro e w13 ⟨z3, kz3, rfl, hz3, hb⟩
          have hB13 := below_after hB12 hb
          have hC13 := below_after hC12 hb
          have hD13 := below_after hD12 hb
          have hG13 := below_after hG12 hb
          have hH13 := below_after hH12 hb
          have hz3' := hz3.nodes
          clear hz3
          clear hb
          obtain ⟨Z3A, Z3c, rfl, _, Z3m⟩ := hz3'.form
          simp only [maxLen] at Z3m
          have Z3 := Lib.hid hz3'
          clear hz3'
          go_wp2_with fail
          refine (isV key Z3.out FAB.out.1).mono ?_
          rintro e w14 ⟨rfl, hb⟩
          have hB14 := below_after hB13 hb
          have hC14 := below_after hC13 hb
          have hD14 := below_after hD13 hb
          have hG14 := below_after hG13 hb
          have hH14 := below_after hH13 hb
          rw [HAB.out.1]
          clear hb
          go_wp2_with fail
          refine (above_none kAlike _ a kv4 _ (N4.out.keep hG14) FA.out.len FA.out.kids).mono ?_
          rintro e w15 ⟨z4, kz4, rfl, hz4, hb⟩
          have hB15 := below_after hB14 hb
          have hC15 := below_after hC14 hb
          have hD15 := below_after hD14 hb
          have hG15 := below_after hG14 hb
          have hH15 := below_after hH14 hb
          have hz4' := hz4.nodes
          clear hz4
          clear hb
          obtain ⟨Z4A, Z4c, rfl, _, Z4m⟩ := hz4'.form
          simp only [maxLen] at Z4m
          have Z4 := Lib.hid hz4'
          clear hz4'
          go_wp2_with fail
          refine (beside_any _ _ (aboveN kAlike a []) b kz4 kv6 _ Z4.out (N6.out.keep hH15) FAB.out.2.2.1.len FB.out.len FAB.out.2.2.1.kids FB.out.kids).mono ?_
          rintro e w16 ⟨z5, kz5, rfl, hz5, hb⟩
          have hB16 := below_after hB15 hb
          have hC16 := below_after hC15 hb
          have hD16 := below_after hD15 hb
          have hG16 := below_after hG15 hb
          have hH16 := below_after hH15 hb
          have hz5' := hz5.nodes
          clear hz5
          clear hb
          obtain ⟨Z5A, Z5c, rfl, _, Z5m⟩ := hz5'.form
          simp only [maxLen] at Z5m
          have Z5 := Lib.hid hz5'
          clear hz5'
          go_wp2_with fail
          refine (isV 9 Z5.out FAB.out.2.2.2).mono ?_
          rintro e w17 ⟨rfl, hb⟩
          have hB17 := below_after hB16 hb
          have hC17 := below_after hC16 hb
          have hD17 := below_after hD16 hb
          have hG17 := below_after hG16 hb
          have hH17 := below_after hH16 hb
          rw [HAB.out.2.2]
          clear hb
          go_wp2_with fail
          go_ret
          exact ⟨rfl, hB17⟩
      | true =>
        simp only [Bool.true_or]
        simp only [Bool.or_true, Bool.true_or] at HAB ⊢
        go_wp2_with fail
        refine (beside_any _ _ b a kv6 kv4 _ (N6.out.keep hH9) (N4.out.keep hG9) FB.out.len FA.out.len FB.out.kids FA.out.kids).mono ?_
        rintro e w10 ⟨z2, kz2, rfl, hz2, hb⟩
        have hB10 := below_after hB9 hb
        have hC10 := below_after hC9 hb
        have hD10 := below_after hD9 hb
        have hG10 := below_after hG9 hb
        have hH10 := below_after hH9 hb
        have hz2' := hz2.nodes
        clear hz2
        clear hb
        obtain ⟨Z2A, Z2c, rfl, _, Z2m⟩ := hz2'.form
        simp only [maxLen] at Z2m
        have Z2 := Lib.hid hz2'
        clear hz2'
        go_wp2_with fail
        refine (isV key Z2.out FAB.out.2.1).mono ?_
        rintro e w11 ⟨rfl, hb⟩
        have hB11 := below_after hB10 hb
        have hC11 := below_after hC10 hb
        have hD11 := below_after hD10 hb
        have hG11 := below_after hG10 hb
        have hH11 := below_after hH10 hb
        rw [HAB.out.2.1]
        clear hb
        go_wp2_with fail
        refine (beside_any _ _ a b kv4 kv6 _ (N4.out.keep hG11) (N6.out.keep hH11) FA.out.len FB.out.len FA.out.kids FB.out.kids).mono ?_
        rintro e w12 ⟨z3, kz3, rfl, hz3, hb⟩
        have hB12 := below_after hB11 hb
        have hC12 := below_after hC11 hb
        have hD12 := below_after hD11 hb
        have hG12 := below_after hG11 hb
        have hH12 := below_after hH11 hb
        have hz3' := hz3.nodes
        clear hz3
        clear hb
        obtain ⟨Z3A, Z3c, rfl, _, Z3m⟩ := hz3'.form
        simp only [maxLen] at Z3m
        have Z3 := Lib.hid hz3'
        clear hz3'
        go_wp2_with fail
        refine (isV key Z3.out FAB.out.1).mono ?_
        rintro e w13 ⟨rfl, hb⟩
        have hB13 := below_after hB12 hb
        have hC13 := below_after hC12 hb
        have hD13 := below_after hD12 hb
        have hG13 := below_after hG12 hb
        have hH13 := below_after hH12 hb
        rw [HAB.out.1]
        clear hb
        go_wp2_with fail
        refine (above_none kAlike _ a kv4 _ (N4.out.keep hG13) FA.out.len FA.out.kids).mono ?_
        rintro e w14 ⟨z4, kz4, rfl, hz4, hb⟩
        have hB14 := below_after hB13 hb
        have hC14 := below_after hC13 hb
        have hD14 := below_after hD13 hb
        have hG14 := below_after hG13 hb
        have hH14 := below_after hH13 hb
        have hz4' := hz4.nodes
        clear hz4
        clear hb
        obtain ⟨Z4A, Z4c, rfl, _, Z4m⟩ := hz4'.form
        simp only [maxLen] at Z4m
        have Z4 := Lib.hid hz4'
        clear hz4'
        go_wp2_with fail
        refine (beside_any _ _ (aboveN kAlike a []) b kz4 kv6 _ Z4.out (N6.out.keep hH14) FAB.out.2.2.1.len FB.out.len FAB.out.2.2.1.kids FB.out.kids).mono ?_
        rintro e w15 ⟨z5, kz5, rfl, hz5, hb⟩
        have hB15 := below_after hB14 hb
        have hC15 := below_after hC14 hb
        have hD15 := below_after hD14 hb
        have hG15 := below_after hG14 hb
        have hH15 := below_after hH14 hb
        have hz5' := hz5.nodes
        clear hz5
        clear hb
        obtain ⟨Z5A, Z5c, rfl, _, Z5m⟩ := hz5'.form
        simp only [maxLen] at Z5m
        have Z5 := Lib.hid hz5'
        clear hz5'
        go_wp2_with fail
        refine (isV 9 Z5.out FAB.out.2.2.2).mono ?_
        rintro e w16 ⟨rfl, hb⟩
        have hB16 := below_after hB15 hb
        have hC16 := below_after hC15 hb
        have hD16 := below_after hD15 hb
        have hG16 := below_after hG15 hb
        have hH16 := below_after hH15 hb
        rw [HAB.out.2.2]
        clear hb
        go_wp2_with fail
        go_ret
        exact ⟨rfl, hB16⟩
    · rw [if_neg hcap] at hv2
      have V2 := Lib.hid hv2
      clear hv2
      go_wp2_with fail
      refine (drawIsValue_any _ _ (cl.drop (cl.length / 2)) V2.out HR2.out hl2).mono ?_
      rintro e w2 ⟨v2, ns2, kv2, key2, rfl, _, hn2, hd2, hb⟩
      have hB2 := below_after hB1 hb
      have hC2 := below_after hC1 hb
      clear hb
      obtain ⟨N2A, N2c, rfl, _, N2m⟩ := hn2.form
      simp only [maxLen] at N2m
      have N2 := Lib.hid hn2
      clear hn2
      have HF2 := Lib.hid (Fewer.drawn hd2)
      clear hd2
      have hD2 : Below w2.heap.size w2 w2 := Below.refl _ _
      go_wp2_with fail
      refine (implNodes_any _ ns1 kv1 _ (N1.out.keep hC2) (HF1.out.l64 (by omega))).mono ?_
      rintro e w3 ⟨v3, rfl, hn3, hb⟩
      have hB3 := below_after hB2 hb
      have hC3 := below_after hC2 hb
      have hD3 := below_after hD2 hb
      clear hb
      obtain ⟨N3A, N3c, rfl, _, N3m⟩ := hn3.form
      simp only [maxLen] at N3m
      have N3 := Lib.hid hn3
      clear hn3
      go_wp2_with fail
      refine (cut_any _ ns1 kv1 _ N3.out (HF1.out.few (by omega) (by omega)).len (HF1.out.few (by omega) (by omega)).kids).mono ?_
      rintro e w4 ⟨v4, kv4, rfl, hn4, hb⟩
      have hB4 := below_after hB3 hb
      have hC4 := below_after hC3 hb
      have hD4 := below_after hD3 hb
      have hn4' := hn4.nodes
      clear hn4
      clear hb
      obtain ⟨N4A, N4c, rfl, _, N4m⟩ := hn4'.form
      simp only [maxLen] at N4m
      have N4 := Lib.hid hn4'
      clear hn4'
      have hG4 : Below w4.heap.size w4 w4 := Below.refl _ _
      go_wp2_with fail
      refine (implNodes_any _ ns2 kv2 _ (N2.out.keep hD4) (HF2.out.l64 (by omega))).mono ?_
      rintro e w5 ⟨v5, rfl, hn5, hb⟩
      have hB5 := below_after hB4 hb
      have hC5 := below_after hC4 hb
      have hD5 := below_after hD4 hb
      have hG5 := below_after hG4 hb
      clear hb
      obtain ⟨N5A, N5c, rfl, _, N5m⟩ := hn5.form
      simp only [maxLen] at N5m
      have N5 := Lib.hid hn5
      clear hn5
      go_wp2_with fail
      refine (cut_any _ ns2 kv2 _ N5.out (HF2.out.few (by omega) (by omega)).len (HF2.out.few (by omega) (by omega)).kids).mono ?_
      rintro e w6 ⟨v6, kv6, rfl, hn6, hb⟩
      have hB6 := below_after hB5 hb
      have hC6 := below_after hC5 hb
      have hD6 := below_after hD5 hb
      have hG6 := below_after hG5 hb
      have hn6' := hn6.nodes
      clear hn6
      clear hb
      obtain ⟨N6A, N6c, rfl, _, N6m⟩ := hn6'.form
      simp only [maxLen] at N6m
      have N6 := Lib.hid hn6'
      clear hn6'
      have hH6 : Below w6.heap.size w6 w6 := Below.refl _ _
      have HA := Lib.hid (And.intro (cutN_cutted ns1) HF1.out.cut)
      have HB := Lib.hid (And.intro (cutN_cutted ns2) HF2.out.cut)
      clear HF1 HF2 N1 N2 N3 N5 V2 HR2 hl2
      generalize cutN ns1 = a at *
      generalize cutN ns2 = b at *
      have FA := Lib.hid (HA.out.2.few (by omega) (by omega))
      have FB := Lib.hid (HB.out.2.few (by omega) (by omega))
      have HAB := Lib.hid (And.intro (is_beside HA.out.1 HB.out.1 FA.out.len FB.out.len key) (And.intro (is_beside HB.out.1 HA.out.1 FB.out.len FA.out.len key) (is_beside_alike (a := a) HB.out.1 (by have := HA.out.2.1; omega) FB.out.len)))
      have FAB := Lib.hid (And.intro ((HA.out.2.besideC HB.out.2 (by omega)).few (by omega) (by omega)) (And.intro ((HB.out.2.besideC HA.out.2 (by omega)).few (by omega) (by omega)) (And.intro ((HA.out.2.above (by omega) kAlike).few (by omega) (by omega)) (((HA.out.2.above (by omega) kAlike).besideC HB.out.2 (by omega)).few (by omega) (by omega)))))
      generalize hpa : (rootTree a).any (hitVal a key) = pa at *
      generalize hpb : (rootTree b).any (hitVal b key) = pb at *
      have HP := Lib.hid (And.intro hpa hpb)
      clear hpa hpb
      go_wp2_with fail
      refine (beside_any _ _ a b kv4 kv6 _ (N4.out.keep hG6) (N6.out.keep hH6) FA.out.len FB.out.len FA.out.kids FB.out.kids).mono ?_
      rintro e w7 ⟨z1, kz1, rfl, hz1, hb⟩
      have hB7 := below_after hB6 hb
      have hC7 := below_after hC6 hb
      have hD7 := below_after hD6 hb
      have hG7 := below_after hG6 hb
      have hH7 := below_after hH6 hb
      have hz1' := hz1.nodes
      clear hz1
      clear hb
      obtain ⟨Z1A, Z1c, rfl, _, Z1m⟩ := hz1'.form
      simp only [maxLen] at Z1m
      have Z1 := Lib.hid hz1'
      clear hz1'
      go_wp2_with fail
      refine (isV key Z1.out FAB.out.1).mono ?_
      rintro e w8 ⟨rfl, hb⟩
      have hB8 := below_after hB7 hb
      have hC8 := below_after hC7 hb
      have hD8 := below_after hD7 hb
      have hG8 := below_after hG7 hb
      have hH8 := below_after hH7 hb
      rw [HAB.out.1]
      clear hb
      go_wp2_with fail
      refine (isV key (N4.out.keep hG8) FA.out).mono ?_
      rintro e w9 ⟨rfl, hb⟩
      have hB9 := below_after hB8 hb
      have hC9 := below_after hC8 hb
      have hD9 := below_after hD8 hb
      have hG9 := below_after hG8 hb
      have hH9 := below_after hH8 hb
      rw [HP.out.1]
      clear hb
      cases pa with
      | false =>
        go_wp2_with fail
        refine (isV key (N6.out.keep hH9) FB.out).mono ?_
        rintro e w10 ⟨rfl, hb⟩
        have hB10 := below_after hB9 hb
        have hC10 := below_after hC9 hb
        have hD10 := below_after hD9 hb
        have hG10 := below_after hG9 hb
        have hH10 := below_after hH9 hb
        rw [HP.out.2]
        clear hb
        cases pb
        all_goals
          simp only [Bool.or_true, Bool.or_false] at HAB ⊢
          go_wp2_with fail
          refine (beside_any _ _ b a kv6 kv4 _ (N6.out.keep hH10) (N4.out.keep hG10) FB.out.len FA.out.len FB.out.kids FA.out.kids).mono ?_
          rintro e w11 ⟨z2, kz2, rfl, hz2, hb⟩
          have hB11 := below_after hB10 hb
          have hC11 := below_after hC10 hb
          have hD11 := below_after hD10 hb
          have hG11 := below_after hG10 hb
          have hH11 := below_after hH10 hb
          have hz2' := hz2.nodes
          clear hz2
          clear hb
          obtain ⟨Z2A, Z2c, rfl, _, Z2m⟩ := hz2'.form
          simp only [maxLen] at Z2m
          have Z2 := Lib.hid hz2'
          clear hz2'
          go_wp2_with fail
          refine (isV key Z2.out FAB.out.2.1).mono ?_
          rintro e w12 ⟨rfl, hb⟩
          have hB12 := below_after hB11 hb
          have hC12 := below_after hC11 hb
          have hD12 := below_after hD11 hb
          have hG12 := below_after hG11 hb
          have hH12 := below_after hH11 hb
          rw [HAB.out.2.1]
          clear hb
          go_wp2_with fail
          refine (beside_any _ _ a b kv4 kv6 _ (N4.out.keep hG12) (N6.out.keep hH12) FA.out.len FB.out.len FA.out.kids FB.out.kids).mono ?_
          rintro e w13 ⟨z3, kz3, rfl, hz3, hb⟩
          have hB13 := below_after hB12 hb
          have hC13 := below_after hC12 hb
          have hD13 := below_after hD12 hb
          have hG13 := below_after hG12 hb
          have hH13 := below_after hH12 hb
          have hz3' := hz3.nodes
          clear hz3
          clear hb
          obtain ⟨Z3A, Z3c, rfl, _, Z3m⟩ := hz3'.form
          simp only [maxLen] at Z3m
          have Z3 := Lib.hid hz3'
          clear hz3'
          go_wp2_with fail
          refine (isV key Z3.out FAB.out.1).mono ?_
          rintro e w14 ⟨rfl, hb⟩
          have hB14 := below_after hB13 hb
          have hC14 := below_after hC13 hb
          have hD14 := below_after hD13 hb
          have hG14 := below_after hG13 hb
          have hH14 := below_after hH13 hb
          rw [HAB.out.1]
          clear hb
          go_wp2_with fail
          refine (above_none kAlike _ a kv4 _ (N4.out.keep hG14) FA.out.len FA.out.kids).mono ?_
          rintro e w15 ⟨z4, kz4, rfl, hz4, hb⟩
          have hB15 := below_after hB14 hb
          have hC15 := below_after hC14 hb
          have hD15 := below_after hD14 hb
          have hG15 := below_after hG14 hb
          have hH15 := below_after hH14 hb
          have hz4' := hz4.nodes
          clear hz4
          clear hb
          obtain ⟨Z4A, Z4c, rfl, _, Z4m⟩ := hz4'.form
          simp only [maxLen] at Z4m
          have Z4 := Lib.hid hz4'
          clear hz4'
          go_wp2_with fail
          refine (beside_any _ _ (aboveN kAlike a []) b kz4 kv6 _ Z4.out (N6.out.keep hH15) FAB.out.2.2.1.len FB.out.len FAB.out.2.2.1.kids FB.out.kids).mono ?_
          rintro e w16 ⟨z5, kz5, rfl, hz5, hb⟩
          have hB16 := below_after hB15 hb
          have hC16 := below_after hC15 hb
          have hD16 := below_after hD15 hb
          have hG16 := below_after hG15 hb
          have hH16 := below_after hH15 hb
          have hz5' := hz5.nodes
          clear hz5
          clear hb
          obtain ⟨Z5A, Z5c, rfl, _, Z5m⟩ := hz5'.form
          simp only [maxLen] at Z5m
          have Z5 := Lib.hid hz5'
          clear hz5'
          go_wp2_with fail
          refine (isV 9 Z5.out FAB.out.2.2.2).mono ?_
          rintro e w17 ⟨rfl, hb⟩
          have hB17 := below_after hB16 hb
          have hC17 := below_after hC16 hb
          have hD17 := below_after hD16 hb
          have hG17 := below_after hG16 hb
          have hH17 := below_after hH16 hb
          rw [HAB.out.2.2]
          clear hb
          go_wp2_with fail
          go_ret
          exact ⟨rfl, hB17⟩
      | true =>
        simp only [Bool.true_or]
        simp only [Bool.or_true, Bool.true_or] at HAB ⊢
        go_wp2_with fail
        refine (beside_any _ _ b a kv6 kv4 _ (N6.out.keep hH9) (N4.out.keep hG9) FB.out.len FA.out.len FB.out.kids FA.out.kids).mono ?_
        rintro e w10 ⟨z2, kz2, rfl, hz2, hb⟩
        have hB10 := below_after hB9 hb
        have hC10 := below_after hC9 hb
        have hD10 := below_after hD9 hb
        have hG10 := below_after hG9 hb
        have hH10 := below_after hH9 hb
        have hz2' := hz2.nodes
        clear hz2
        clear hb
        obtain ⟨Z2A, Z2c, rfl, _, Z2m⟩ := hz2'.form
        simp only [maxLen] at Z2m
        have Z2 := Lib.hid hz2'
        clear hz2'
        go_wp2_with fail
        refine (isV key Z2.out FAB.out.2.1).mono ?_
        rintro e w11 ⟨rfl, hb⟩
        have hB11 := below_after hB10 hb
        have hC11 := below_after hC10 hb
        have hD11 := below_after hD10 hb
        have hG11 := below_after hG10 hb
        have hH11 := below_after hH10 hb
        rw [HAB.out.2.1]
        clear hb
        go_wp2_with fail
        refine (beside_any _ _ a b kv4 kv6 _ (N4.out.keep hG11) (N6.out.keep hH11) FA.out.len FB.out.len FA.out.kids FB.out.kids).mono ?_
        rintro e w12 ⟨z3, kz3, rfl, hz3, hb⟩
        have hB12 := below_after hB11 hb
        have hC12 := below_after hC11 hb
        have hD12 := below_after hD11 hb
        have hG12 := below_after hG11 hb
        have hH12 := below_after hH11 hb
        have hz3' := hz3.nodes
        clear hz3
        clear hb
        obtain ⟨Z3A, Z3c, rfl, _, Z3m⟩ := hz3'.form
        simp only [maxLen] at Z3m
        have Z3 := Lib.hid hz3'
        clear hz3'
        go_wp2_with fail
        refine (isV key Z3.out FAB.out.1).mono ?_
        rintro e w13 ⟨rfl, hb⟩
        have hB13 := below_after hB12 hb
        have hC13 := below_after hC12 hb
        have hD13 := below_after hD12 hb
        have hG13 := below_after hG12 hb
        have hH13 := below_after hH12 hb
        rw [HAB.out.1]
        clear hb
        go_wp2_with fail
        refine (above_none kAlike _ a kv4 _ (N4.out.keep hG13) FA.out.len FA.out.kids).mono ?_
        rintro e w14 ⟨z4, kz4, rfl, hz4, hb⟩
        have hB14 := below_after hB13 hb
        have hC14 := below_after hC13 hb
        have hD14 := below_after hD13 hb
        have hG14 := below_after hG13 hb
        have hH14 := below_after hH13 hb
        have hz4' := hz4.nodes
        clear hz4
        clear hb
        obtain ⟨Z4A, Z4c, rfl, _, Z4m⟩ := hz4'.form
        simp only [maxLen] at Z4m
        have Z4 := Lib.hid hz4'
        clear hz4'
        go_wp2_with fail
        refine (beside_any _ _ (aboveN kAlike a []) b kz4 kv6 _ Z4.out (N6.out.keep hH14) FAB.out.2.2.1.len FB.out.len FAB.out.2.2.1.kids FB.out.kids).mono ?_
        rintro e w15 ⟨z5, kz5, rfl, hz5, hb⟩
        have hB15 := below_after hB14 hb
        have hC15 := below_after hC14 hb
        have hD15 := below_after hD14 hb
        have hG15 := below_after hG14 hb
        have hH15 := below_after hH14 hb
        have hz5' := hz5.nodes
        clear hz5
        clear hb
        obtain ⟨Z5A, Z5c, rfl, _, Z5m⟩ := hz5'.form
        simp only [maxLen] at Z5m
        have Z5 := Lib.hid hz5'
        clear hz5'
        go_wp2_with fail
        refine (isV 9 Z5.out FAB.out.2.2.2).mono ?_
        rintro e w16 ⟨rfl, hb⟩
        have hB16 := below_after hB15 hb
        have hC16 := below_after hC15 hb
        have hD16 := below_after hD15 hb
        have hG16 := below_after hG15 hb
        have hH16 := below_after hH15 hb
        rw [HAB.out.2.2]
        clear hb
        go_wp2_with fail
        go_ret
        exact ⟨rfl, hB16⟩

end Go.Proofs.Ytlbmmeloggnogaa
