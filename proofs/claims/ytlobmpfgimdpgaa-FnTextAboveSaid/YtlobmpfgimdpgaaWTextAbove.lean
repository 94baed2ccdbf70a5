/-
  The walk of the law FnTextAbove: it returns true.
  Conditions: none but that the bytes are bytes.
-/
import Derived.Test.YtlobmpfgimdpgaaDrawIsNil
import Derived.Test.YtlobmpfgimdpgaaBeside
import Derived.Test.YtlobmpfgimdpgaaPlainText
import Derived.Test.YtlobmpfgimdpgaaLarge
namespace Go.Proofs.Ytlobmpfgimdpgaa
open Go.RowKit Go.Lib

set_option maxHeartbeats 1000000 in
theorem drawTextOf_any (w : World) (cv : Value) (cl : List Int) (hv : Vals w cv (cl.map (.int .u8))) (hr : ∀ c ∈ cl, 0 ≤ c ∧ c ≤ 255) (hs : cl.length ≤ 1048576) :
    Calls Try.prog 18 #[cv] w (DrewNodes w) := by
  have HD := Lib.hid (drawIsNil_any w cv cl hv hr hs)
  obtain ⟨A, cap, hcv, _, _⟩ := hv.form
  rw [List.length_map] at hcv
  subst hcv
  clear hv hr
  go_enter Try.func18, Try.ntmps18
  go_wp2_with fail
  refine HD.out.mono ?_
  rintro e w1 ⟨v, ns, kv, rfl, hn, hd, hb⟩
  have HS := Lib.hid (And.intro hn (And.intro hd hb))
  obtain ⟨B, capB, rfl, _, _⟩ := hn.form
  clear hn hd hb
  go_wp2_with fail
  go_ret
  exact ⟨_, ns, kv, rfl, HS.out.1, HS.out.2.1, HS.out.2.2⟩

/-- impl.TextOf over few nodes with short texts. -/
theorem textS {v : Value} {ns : List Nd} {kv : Nat → Value} {w : World} (h : Nodes w v ns kv) (f : Fewer 17 3 ns) (s : Short ns) :
    Calls Try.prog 13 #[v] w fun e w' => e = .returned (.tuple #[.string (rootText ns), .bool (isThere ns 0)]) ∧ Below w.heap.size w w' :=
  implTextOf v ns kv w h (by have := f.1; omega) (fun nd hnd => by have := f.2 nd hnd; omega) (s.size f)

theorem beside_size {a b : List Nd} (ha : Cutted a) (hb : Cutted b) (fa : Fewer 8 3 a) (fb : Fewer 8 3 b) (sa : Short a) (sb : Short b) :
    (lines (kept [rootText a, rootText b] [!isThere a 0, !isThere b 0])).length ≤ 1099511627776 := by
  have h1 := (text_beside ha hb (by have := fa.1; omega) (by have := fb.1; omega)).1
  have h2 : (rootText (besideN a b)).size ≤ 1099511627776 := by
    unfold rootText
    split
    · rename_i h
      exact (sa.beside sb ha).size ((fa.besideC fb (by omega))) 0 (isThere_lt h)
    · exact Nat.zero_le _
  rw [h1] at h2
  have h : (lines (kept [rootText a, rootText b] [!isThere a 0, !isThere b 0])).toArray.size ≤ 1099511627776 := h2
  simpa using h

set_option maxRecDepth 100000 in
set_option maxHeartbeats 8000000 in
theorem wFnTextAbove (w : World) (cv : Value) (cl : List Int) (hv : Vals w cv (cl.map (.int .u8))) (hr : ∀ c ∈ cl, 0 ≤ c ∧ c ≤ 255) :
    Calls Try.prog 4 #[cv] w fun e w' => e = .returned (.bool true) ∧ Below w.heap.size w w' := by
  obtain ⟨A, cap, rfl, hlc, hcm⟩ := hv.form
  simp only [List.length_map] at *
  have HV := Lib.hid hv
  have HR := Lib.hid hr
  clear hv hr
  by_cases hbig : 1048576 < cl.length
  · go_enter Try.func4, Try.ntmps4
    go_wp2_with fail
    refine (large_any _ _ _ _).mono ?_
    rintro e w1 ⟨rfl, rfl⟩
    go_wp2_with fail
    go_ret
    exact ⟨rfl, Below.refl _ _⟩
  · have hd : decide (1048576 < cl.length) = false := by simpa using hbig
    go_enter Try.func4, Try.ntmps4
    go_wp2_with fail
    refine (large_any _ _ _ _).mono ?_
    rintro e w1 ⟨rfl, rfl⟩
    rw [hd]
    clear hd
    go_wp2_with fail
    refine (drawTextOf_any w _ cl HV.out HR.out (by omega)).mono ?_
    rintro e w1 ⟨v1, ns1, kv1, rfl, hn1, hd1, hb⟩
    have hB1 := hb
    clear hb
    obtain ⟨N1A, N1c, rfl, _, N1m⟩ := hn1.form
    simp only [maxLen] at N1m
    have N1 := Lib.hid hn1
    clear hn1
    have HF1 := Lib.hid (And.intro (Fewer.drawn hd1) (Short.drawn hd1))
    clear hd1
    have hC1 : Below w1.heap.size w1 w1 := Below.refl _ _
    have q1 : (0 : Int) ≤ (cl.length : Int) / 2 := by omega
    have q2 : (cl.length : Int) / 2 ≤ (cap : Int) := by omega
    simp only [maxLen] at hcm
    have hv2 := Vals.drop (Vals.keep HV.out hB1) (cl.length / 2) (by omega)
    rw [← List.map_drop] at hv2
    have hr2 : ∀ c ∈ cl.drop (cl.length / 2), 0 ≤ c ∧ c ≤ 255 := fun c hc => HR.out c (List.mem_of_mem_drop hc)
    have HR2 := Lib.hid hr2
    have hl2 : (cl.drop (cl.length / 2)).length ≤ 1048576 := by simp; omega
    clear hr2
    by_cases hcap : cap = cl.length / 2
    · rw [if_pos hcap] at hv2
      have hl0 : cl.length = 0 := by omega
      obtain rfl : cl = [] := List.eq_nil_of_length_eq_zero hl0
      obtain rfl : cap = 0 := by simpa using hcap
      clear hcap hl0
      simp only [List.length_nil, Nat.zero_div, List.drop_nil, Nat.sub_zero] at hv2
      have V2 := Lib.hid hv2
      clear hv2
      simp only [List.length_nil]
      go_wp2_with fail
      refine (drawTextOf_any _ _ [] V2.out (by simp) (by simp)).mono ?_
      rintro e w2 ⟨v2, ns2, kv2, rfl, hn2, hd2, hb⟩
      have hB2 := below_after hB1 hb
      have hC2 := below_after hC1 hb
      clear hb
      obtain ⟨N2A, N2c, rfl, _, N2m⟩ := hn2.form
      simp only [maxLen] at N2m
      have N2 := Lib.hid hn2
      clear hn2
      have HF2 := Lib.hid (And.intro (Fewer.drawn hd2) (Short.drawn hd2))
      clear hd2
      have hD2 : Below w2.heap.size w2 w2 := Below.refl _ _
      go_wp2_with fail
      refine (implNodes_any _ ns1 kv1 _ (N1.out.keep hC2) (HF1.out.1.l64 (by omega))).mono ?_
      rintro e w3 ⟨v3, rfl, hn3, hb⟩
      have hB3 := below_after hB2 hb
      have hC3 := below_after hC2 hb
      have hD3 := below_after hD2 hb
      clear hb
      obtain ⟨N3A, N3c, rfl, _, N3m⟩ := hn3.form
      simp only [maxLen] at N3m
      have N3 := Lib.hid hn3
      clear hn3
      go_wp2_with fail
      refine (cut_any _ ns1 kv1 _ N3.out (HF1.out.1.few (by omega) (by omega)).len (HF1.out.1.few (by omega) (by omega)).kids).mono ?_
      rintro e w4 ⟨v4, kv4, rfl, hn4, hb⟩
      have hB4 := below_after hB3 hb
      have hC4 := below_after hC3 hb
      have hD4 := below_after hD3 hb
      have hn4' := hn4.nodes
      clear hn4
      clear hb
      obtain ⟨N4A, N4c, rfl, _, N4m⟩ := hn4'.form
      simp only [maxLen] at N4m
      have N4 := Lib.hid hn4'
      clear hn4'
      have hG4 : Below w4.heap.size w4 w4 := Below.refl _ _
      go_wp2_with fail
      refine (implNodes_any _ ns2 kv2 _ (N2.out.keep hD4) (HF2.out.1.l64 (by omega))).mono ?_
      rintro e w5 ⟨v5, rfl, hn5, hb⟩
      have hB5 := below_after hB4 hb
      have hC5 := below_after hC4 hb
      have hD5 := below_after hD4 hb
      have hG5 := below_after hG4 hb
      clear hb
      obtain ⟨N5A, N5c, rfl, _, N5m⟩ := hn5.form
      simp only [maxLen] at N5m
      have N5 := Lib.hid hn5
      clear hn5
      go_wp2_with fail
      refine (cut_any _ ns2 kv2 _ N5.out (HF2.out.1.few (by omega) (by omega)).len (HF2.out.1.few (by omega) (by omega)).kids).mono ?_
      rintro e w6 ⟨v6, kv6, rfl, hn6, hb⟩
      have hB6 := below_after hB5 hb
      have hC6 := below_after hC5 hb
      have hD6 := below_after hD5 hb
      have hG6 := below_after hG5 hb
      have hn6' := hn6.nodes
      clear hn6
      clear hb
      obtain ⟨N6A, N6c, rfl, _, N6m⟩ := hn6'.form
      simp only [maxLen] at N6m
      have N6 := Lib.hid hn6'
      clear hn6'
      have hH6 : Below w6.heap.size w6 w6 := Below.refl _ _
      have HA := Lib.hid (And.intro (cutN_cutted ns1) (And.intro HF1.out.1.cut HF1.out.2.cut))
      have HB := Lib.hid (And.intro (cutN_cutted ns2) (And.intro HF2.out.1.cut HF2.out.2.cut))
      clear HF1 HF2 N1 N2 N3 N5 V2
      generalize cutN ns1 = a at *
      generalize cutN ns2 = b at *
      have FA := Lib.hid (HA.out.2.1.few (by omega) (by omega))
      have FB := Lib.hid (HB.out.2.1.few (by omega) (by omega))
      have HAB := Lib.hid (And.intro (text_beside HA.out.1 HB.out.1 FA.out.len FB.out.len) (And.intro (text_wrap HA.out.1 FA.out.len) (And.intro (text_join HA.out.1 FA.out.len) (beside_size HA.out.1 HB.out.1 HA.out.2.1 HB.out.2.1 HA.out.2.2 HB.out.2.2))))
      generalize hxa : rootText a = xa at *
      generalize hxb : rootText b = xb at *
      generalize hpa : isThere a 0 = pa at *
      generalize hpb : isThere b 0 = pb at *
      have HP := Lib.hid (And.intro hxa (And.intro hpa (And.intro hxb hpb)))
      clear hxa hxb hpa hpb
      go_wp2_with fail
      refine (textS (N4.out.keep hG6) (HA.out.2.1.mono (by omega)) HA.out.2.2).mono ?_
      rintro e w7 ⟨rfl, hb⟩
      have hB7 := below_after hB6 hb
      have hC7 := below_after hC6 hb
      have hD7 := below_after hD6 hb
      have hG7 := below_after hG6 hb
      have hH7 := below_after hH6 hb
      rw [HP.out.1, HP.out.2.1]
      clear hb
      go_wp2_with fail
      refine (textS (N6.out.keep hH7) (HB.out.2.1.mono (by omega)) HB.out.2.2).mono ?_
      rintro e w8 ⟨rfl, hb⟩
      have hB8 := below_after hB7 hb
      have hC8 := below_after hC7 hb
      have hD8 := below_after hD7 hb
      have hG8 := below_after hG7 hb
      have hH8 := below_after hH7 hb
      rw [HP.out.2.2.1, HP.out.2.2.2]
      clear hb
      go_wp2_with fail
      refine (beside_any _ _ a b kv4 kv6 _ (N4.out.keep hG8) (N6.out.keep hH8) FA.out.len FB.out.len FA.out.kids FB.out.kids).mono ?_
      rintro e w9 ⟨z1, kz1, rfl, hz1, hb⟩
      have hB9 := below_after hB8 hb
      have hC9 := below_after hC8 hb
      have hD9 := below_after hD8 hb
      have hG9 := below_after hG8 hb
      have hH9 := below_after hH8 hb
      have hz1' := hz1.nodes
      clear hz1
      clear hb
      obtain ⟨Z1A, Z1c, rfl, _, Z1m⟩ := hz1'.form
      simp only [maxLen] at Z1m
      have Z1 := Lib.hid hz1'
      clear hz1'
      go_wp2_with fail
      refine (textS Z1.out (HA.out.2.1.besideC HB.out.2.1 (by omega)) (HA.out.2.2.beside HB.out.2.2 HA.out.1)).mono ?_
      rintro e w10 ⟨rfl, hb⟩
      have hB10 := below_after hB9 hb
      have hC10 := below_after hC9 hb
      have hD10 := below_after hD9 hb
      have hG10 := below_after hG9 hb
      have hH10 := below_after hH9 hb
      rw [HAB.out.1.1, HAB.out.1.2]
      clear Z1
      clear hb
      go_wp2_with fail
      refine (joinTexts_any _ _ [xa, xb] [!pa, !pb] _ ((Vals.lit w10 #[.string xa, .string xb] 9 2 rfl (by omega)).keep (below_alloc _ _)) (by have := Vals.lit (w10.alloc (.cells #[.string xa, .string xb] 9)) #[.bool (!pa), .bool (!pb)] 4 2 rfl (by omega); unfold Bools; simpa using this) (by simp) HAB.out.2.2.2).mono ?_
      rintro e w11 ⟨rfl, hb0⟩
      have hB11 := below_after hB10 (below_box (below_box hb0))
      have hC11 := below_after hC10 (below_box (below_box hb0))
      have hD11 := below_after hD10 (below_box (below_box hb0))
      have hG11 := below_after hG10 (below_box (below_box hb0))
      have hH11 := below_after hH10 (below_box (below_box hb0))
      clear hb0
      go_wp2_with fail
      refine (above_none kWrap _ a kv4 _ (N4.out.keep hG11) FA.out.len FA.out.kids).mono ?_
      rintro e w12 ⟨z4, kz4, rfl, hz4, hb⟩
      have hB12 := below_after hB11 hb
      have hC12 := below_after hC11 hb
      have hD12 := below_after hD11 hb
      have hG12 := below_after hG11 hb
      have hH12 := below_after hH11 hb
      have hz4' := hz4.nodes
      clear hz4
      clear hb
      obtain ⟨Z4A, Z4c, rfl, _, Z4m⟩ := hz4'.form
      simp only [maxLen] at Z4m
      have Z4 := Lib.hid hz4'
      clear hz4'
      go_wp2_with fail
      refine (textS Z4.out ((HA.out.2.1.above (by omega) kWrap).mono (by omega)) (HA.out.2.2.above kWrap)).mono ?_
      rintro e w13 ⟨rfl, hb⟩
      have hB13 := below_after hB12 hb
      have hC13 := below_after hC12 hb
      have hD13 := below_after hD12 hb
      have hG13 := below_after hG12 hb
      have hH13 := below_after hH12 hb
      rw [HAB.out.2.1.1, HAB.out.2.1.2]
      clear Z4
      simp only [kAbove]
      clear hb
      go_wp2_with fail
      refine (above_none kJoin _ a kv4 _ (N4.out.keep hG13) FA.out.len FA.out.kids).mono ?_
      rintro e w14 ⟨z5, kz5, rfl, hz5, hb⟩
      have hB14 := below_after hB13 hb
      have hC14 := below_after hC13 hb
      have hD14 := below_after hD13 hb
      have hG14 := below_after hG13 hb
      have hH14 := below_after hH13 hb
      have hz5' := hz5.nodes
      clear hz5
      clear hb
      obtain ⟨Z5A, Z5c, rfl, _, Z5m⟩ := hz5'.form
      simp only [maxLen] at Z5m
      have Z5 := Lib.hid hz5'
      clear hz5'
      go_wp2_with fail
      refine (textS Z5.out ((HA.out.2.1.above (by omega) kJoin).mono (by omega)) (HA.out.2.2.above kJoin)).mono ?_
      rintro e w15 ⟨rfl, hb⟩
      have hB15 := below_after hB14 hb
      have hC15 := below_after hC14 hb
      have hD15 := below_after hD14 hb
      have hG15 := below_after hG14 hb
      have hH15 := below_after hH14 hb
      rw [HAB.out.2.2.1.1, HAB.out.2.2.1.2]
      clear Z5
      clear hb
      clear HAB HP
      generalize (⟨(lines (kept [xa, xb] [!pa, !pb])).toArray⟩ : ByteArray) = t at *
      generalize (kept [xa, xb] [!pa, !pb]).isEmpty = em at *
      go_wp2_with fail
      go_ret
      exact ⟨rfl, hB15⟩
    · rw [if_neg hcap] at hv2
      have V2 := Lib.hid hv2
      clear hv2
      go_wp2_with fail
      refine (drawTextOf_any _ _ (cl.drop (cl.length / 2)) V2.out HR2.out hl2).mono ?_
      rintro e w2 ⟨v2, ns2, kv2, rfl, hn2, hd2, hb⟩
      have hB2 := below_after hB1 hb
      have hC2 := below_after hC1 hb
      clear hb
      obtain ⟨N2A, N2c, rfl, _, N2m⟩ := hn2.form
      simp only [maxLen] at N2m
      have N2 := Lib.hid hn2
      clear hn2
      have HF2 := Lib.hid (And.intro (Fewer.drawn hd2) (Short.drawn hd2))
      clear hd2
      have hD2 : Below w2.heap.size w2 w2 := Below.refl _ _
      go_wp2_with fail
      refine (implNodes_any _ ns1 kv1 _ (N1.out.keep hC2) (HF1.out.1.l64 (by omega))).mono ?_
      rintro e w3 ⟨v3, rfl, hn3, hb⟩
      have hB3 := below_after hB2 hb
      have hC3 := below_after hC2 hb
      have hD3 := below_after hD2 hb
      clear hb
      obtain ⟨N3A, N3c, rfl, _, N3m⟩ := hn3.form
      simp only [maxLen] at N3m
      have N3 := Lib.hid hn3
      clear hn3
      go_wp2_with fail
      refine (cut_any _ ns1 kv1 _ N3.out (HF1.out.1.few (by omega) (by omega)).len (HF1.out.1.few (by omega) (by omega)).kids).mono ?_
      rintro e w4 ⟨v4, kv4, rfl, hn4, hb⟩
      have hB4 := below_after hB3 hb
      have hC4 := below_after hC3 hb
      have hD4 := below_after hD3 hb
      have hn4' := hn4.nodes
      clear hn4
      clear hb
      obtain ⟨N4A, N4c, rfl, _, N4m⟩ := hn4'.form
      simp only [maxLen] at N4m
      have N4 := Lib.hid hn4'
      clear hn4'
      have hG4 : Below w4.heap.size w4 w4 := Below.refl _ _
      go_wp2_with fail
      refine (implNodes_any _ ns2 kv2 _ (N2.out.keep hD4) (HF2.out.1.l64 (by omega))).mono ?_
      rintro e w5 ⟨v5, rfl, hn5, hb⟩
      have hB5 := below_after hB4 hb
      have hC5 := below_after hC4 hb
      have hD5 := below_after hD4 hb
      have hG5 := below_after hG4 hb
      clear hb
      obtain ⟨N5A, N5c, rfl, _, N5m⟩ := hn5.form
      simp only [maxLen] at N5m
      have N5 := Lib.hid hn5
      clear hn5
      go_wp2_with fail
      refine (cut_any _ ns2 kv2 _ N5.out (HF2.out.1.few (by omega) (by omega)).len (HF2.out.1.few (by omega) (by omega)).kids).mono ?_
      rintro e w6 ⟨v6, kv6, rfl, hn6, hb⟩
      have hB6 := below_after hB5 hb
      have hC6 := below_after hC5 hb
      have hD6 := below_after hD5 hb
      have hG6 := below_after hG5 hb
      have hn6' := hn6.nodes
      clear hn6
      clear hb
      obtain ⟨N6A, N6c, rfl, _, N6m⟩ := hn6'.form
      simp only [maxLen] at N6m
      have N6 := Lib.hid hn6'
      clear hn6'
      have hH6 : Below w6.heap.size w6 w6 := Below.refl _ _
      have HA := Lib.hid (And.intro (cutN_cutted ns1) (And.intro HF1.out.1.cut HF1.out.2.cut))
      have HB := Lib.hid (And.intro (cutN_cutted ns2) (And.intro HF2.out.1.cut HF2.out.2.cut))
      clear HF1 HF2 N1 N2 N3 N5 V2 HR2 hl2
      generalize cutN ns1 = a at *
      generalize cutN ns2 = b at *
      have FA := Lib.hid (HA.out.2.1.few (by omega) (by omega))
      have FB := Lib.hid (HB.out.2.1.few (by omega) (by omega))
      have HAB := Lib.hid (And.intro (text_beside HA.out.1 HB.out.1 FA.out.len FB.out.len) (And.intro (text_wrap HA.out.1 FA.out.len) (And.intro (text_join HA.out.1 FA.out.len) (beside_size HA.out.1 HB.out.1 HA.out.2.1 HB.out.2.1 HA.out.2.2 HB.out.2.2))))
      generalize hxa : rootText a = xa at *
      generalize hxb : rootText b = xb at *
      generalize hpa : isThere a 0 = pa at *
      generalize hpb : isThere b 0 = pb at *
      have HP := Lib.hid (And.intro hxa (And.intro hpa (And.intro hxb hpb)))
      clear hxa hxb hpa hpb
      go_wp2_with fail
      refine (textS (N4.out.keep hG6) (HA.out.2.1.mono (by omega)) HA.out.2.2).mono ?_
      rintro e w7 ⟨rfl, hb⟩
      have hB7 := below_after hB6 hb
      have hC7 := below_after hC6 hb
      have hD7 := below_after hD6 hb
      have hG7 := below_after hG6 hb
      have hH7 := below_after hH6 hb
      rw [HP.out.1, HP.out.2.1]
      clear hb
      go_wp2_with fail
      refine (textS (N6.out.keep hH7) (HB.out.2.1.mono (by omega)) HB.out.2.2).mono ?_
      rintro e w8 ⟨rfl, hb⟩
      have hB8 := below_after hB7 hb
      have hC8 := below_after hC7 hb
      have hD8 := below_after hD7 hb
      have hG8 := below_after hG7 hb
      have hH8 := below_after hH7 hb
      rw [HP.out.2.2.1, HP.out.2.2.2]
      clear hb
      go_wp2_with fail
      refine (beside_any _ _ a b kv4 kv6 _ (N4.out.keep hG8) (N6.out.keep hH8) FA.out.len FB.out.len FA.out.kids FB.out.kids).mono ?_
      rintro e w9 ⟨z1, kz1, rfl, hz1, hb⟩
      have hB9 := below_after hB8 hb
      have hC9 := below_after hC8 hb
      have hD9 := below_after hD8 hb
      have hG9 := below_after hG8 hb
      have hH9 := below_after hH8 hb
      have hz1' := hz1.nodes
      clear hz1
      clear hb
      obtain ⟨Z1A, Z1c, rfl, _, Z1m⟩ := hz1'.form
      simp only [maxLen] at Z1m
      have Z1 := Lib.hid hz1'
      clear hz1'
      go_wp2_with fail
      refine (textS Z1.out (HA.out.2.1.besideC HB.out.2.1 (by omega)) (HA.out.2.2.beside HB.out.2.2 HA.out.1)).mono ?_
      rintro e w10 ⟨rfl, hb⟩
      have hB10 := below_after hB9 hb
      have hC10 := below_after hC9 hb
      have hD10 := below_after hD9 hb
      have hG10 := below_after hG9 hb
      have hH10 := below_after hH9 hb
      rw [HAB.out.1.1, HAB.out.1.2]
      clear Z1
      clear hb
      go_wp2_with fail
      refine (joinTexts_any _ _ [xa, xb] [!pa, !pb] _ ((Vals.lit w10 #[.string xa, .string xb] 9 2 rfl (by omega)).keep (below_alloc _ _)) (by have := Vals.lit (w10.alloc (.cells #[.string xa, .string xb] 9)) #[.bool (!pa), .bool (!pb)] 4 2 rfl (by omega); unfold Bools; simpa using this) (by simp) HAB.out.2.2.2).mono ?_
      rintro e w11 ⟨rfl, hb0⟩
      have hB11 := below_after hB10 (below_box (below_box hb0))
      have hC11 := below_after hC10 (below_box (below_box hb0))
      have hD11 := below_after hD10 (below_box (below_box hb0))
      have hG11 := below_after hG10 (below_box (below_box hb0))
      have hH11 := below_after hH10 (below_box (below_box hb0))
      clear hb0
      go_wp2_with fail
      refine (above_none kWrap _ a kv4 _ (N4.out.keep hG11) FA.out.len FA.out.kids).mono ?_
      rintro e w12 ⟨z4, kz4, rfl, hz4, hb⟩
      have hB12 := below_after hB11 hb
      have hC12 := below_after hC11 hb
      have hD12 := below_after hD11 hb
      have hG12 := below_after hG11 hb
      have hH12 := below_after hH11 hb
      have hz4' := hz4.nodes
      clear hz4
      clear hb
      obtain ⟨Z4A, Z4c, rfl, _, Z4m⟩ := hz4'.form
      simp only [maxLen] at Z4m
      have Z4 := Lib.hid hz4'
      clear hz4'
      go_wp2_with fail
      refine (textS Z4.out ((HA.out.2.1.above (by omega) kWrap).mono (by omega)) (HA.out.2.2.above kWrap)).mono ?_
      rintro e w13 ⟨rfl, hb⟩
      have hB13 := below_after hB12 hb
      have hC13 := below_after hC12 hb
      have hD13 := below_after hD12 hb
      have hG13 := below_after hG12 hb
      have hH13 := below_after hH12 hb
      rw [HAB.out.2.1.1, HAB.out.2.1.2]
      clear Z4
      simp only [kAbove]
      clear hb
      go_wp2_with fail
      refine (above_none kJoin _ a kv4 _ (N4.out.keep hG13) FA.out.len FA.out.kids).mono ?_
      rintro e w14 ⟨z5, kz5, rfl, hz5, hb⟩
      have hB14 := below_after hB13 hb
      have hC14 := below_after hC13 hb
      have hD14 := below_after hD13 hb
      have hG14 := below_after hG13 hb
      have hH14 := below_after hH13 hb
      have hz5' := hz5.nodes
      clear hz5
      clear hb
      obtain ⟨Z5A, Z5c, rfl, _, Z5m⟩ := hz5'.form
      simp only [maxLen] at Z5m
      have Z5 := Lib.hid hz5'
      clear hz5'
      go_wp2_with fail
      refine (textS Z5.out ((HA.out.2.1.above (by omega) kJoin).mono (by omega)) (HA.out.2.2.above kJoin)).mono ?_
      rintro e w15 ⟨rfl, hb⟩
      have hB15 := below_after hB14 hb
      have hC15 := below_after hC14 hb
      have hD15 := below_after hD14 hb
      have hG15 := below_after hG14 hb
      have hH15 := below_after hH14 hb
      rw [HAB.out.2.2.1.1, HAB.out.2.2.1.2]
      clear Z5
      clear hb
      clear HAB HP
      generalize (⟨(lines (kept [xa, xb] [!pa, !pb])).toArray⟩ : ByteArray) = t at *
      generalize (kept [xa, xb] [!pa, !pb]).isEmpty = em at *
      go_wp2_with fail
      go_ret
      exact ⟨rfl, hB15⟩

end Go.Proofs.Ytlobmpfgimdpgaa
