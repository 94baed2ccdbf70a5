/-
  The walk of the law FnAsIs: it returns true.
  Conditions: none but that the bytes are bytes.
-/
import Derived.Test.YtnekgmkonhclbaaWAsAbove
import Derived.Test.YtnekgmkonhclbaaSetKind
namespace Go.Proofs.Ytnekgmkonhclbaa
open Go.RowKit Go.Lib

set_option maxRecDepth 100000 in
set_option maxHeartbeats 8000000 in
theorem wFnAsIs (w : World) (cv : Value) (cl : List Int) (hv : Vals w cv (cl.map (.int .u8))) (hr : ∀ c ∈ cl, 0 ≤ c ∧ c ≤ 255) :
    Calls Try.prog 8 #[cv] w fun e w' => e = .returned (.bool true) ∧ Below w.heap.size w w' := by
  obtain ⟨A, cap, rfl, hlc, hcm⟩ := hv.form
  simp only [List.length_map] at *
  have HV := Lib.hid hv
  have HR := Lib.hid hr
  clear hv hr
  by_cases hbig : 1048576 < cl.length
  · go_enter Try.func8, Try.ntmps8
    go_wp2_with fail
    refine (large_any _ _ _ _).mono ?_
    rintro e w1 ⟨rfl, rfl⟩
    go_wp2_with fail
    go_ret
    exact ⟨rfl, Below.refl _ _⟩
  · have hd : decide (1048576 < cl.length) = false := by simpa using hbig
    go_enter Try.func8, Try.ntmps8
    go_wp2_with fail
    refine (large_any _ _ _ _).mono ?_
    rintro e w1 ⟨rfl, rfl⟩
    rw [hd]
    clear hd
    go_wp2_with fail
    refine (drawAsValue_st w _ cl HV.out HR.out (by omega)).mono ?_
    rintro e w1 ⟨v, ns, kv, cv2, cl2, p, o, rfl, hrd, hst⟩
    have HRD := Lib.hid hrd
    have hN8 := hst.small.len
    have HS := Lib.hid hst
    obtain ⟨B, capB, rfl, hBc, hBm⟩ := hst.nodes.form
    simp only [maxLen] at hBm
    clear hst hrd
    go_wp2_with fail
    go_loopw [16] (fun vi wr => ∃ (c : Nat) (ms : List Nd) (kw : Nat → Value), c ≤ ns.length ∧ vi = .int .i64 c ∧ ms.length = ns.length ∧ (∀ i nd, i < c → ms[i]? = some nd → nd.kind ≠ kActs) ∧ NodesSt (w.alloc o) w.heap.size cv2 cl2 p (.slice B ns.length capB) ms kw wr) (fun vi _ => ns.length - (intOf vi).toNat)
    case atStart => exact ⟨0, ns, kv, Nat.zero_le _, rfl, rfl, fun i nd hi => by omega, HS.out⟩
    case round =>
      obtain ⟨c, ms, kw, hc, rfl, hml, hno, hst⟩ := hrel
      clear HS
      have HNO := Lib.hid hno
      clear hno
      by_cases hlt : c < ns.length
      · have hrow := hst.row
        rw [hml] at hrow
        obtain ⟨gg, cp, e, hgg, hgl⟩ := hrow.form (by omega)
        injection e with e1 _ e3
        subst e1 e3
        have hgn : ms[c]? = some ms[c] := List.getElem?_eq_getElem (by omega)
        generalize ms[c] = nd at hgn
        obtain ⟨kd, ky, tx, kids⟩ := nd
        obtain ⟨b, off, KA, kc, e, hkw, n0, _, _, n3, _, _⟩ := hst.nodes.at hgn
        injection e with e
        injection e with e1 e2
        subst e1 e2
        simp only [Nat.zero_add] at n0 n3
        have f0 := hrow.frozenAt (c * 4)
        have st4 := hst.setKind (t := kWrap) HRD.out hml hgn
        have HM := Lib.hid (And.intro hml (And.intro hgn (And.intro hst st4)))
        clear hst st4 hrow hml hgn hkw n3
        by_cases hka : kd = kActs
        · subst hka
          simp only [kActs] at n0
          simp only [kWrap] at HM
          go_wp2_with fail
          go_roundw
          case rel =>
            refine ⟨c + 1, _, kw, hlt, by go_num, by rw [List.length_set]; exact HM.out.1, fun i nd hi hx => ?_, HM.out.2.2.2⟩
            by_cases e : i = c
            · subst e
              rw [List.getElem?_set_self (by rw [HM.out.1]; exact hlt)] at hx
              injection hx with hx
              subst hx
              intro h
              have h2 : kWrap = kActs := h
              exact absurd h2 (by decide)
            · rw [List.getElem?_set_ne (fun h => e h.symm)] at hx
              exact HNO.out i nd (by omega) hx
          case measure => simp [intOf]; omega
        · have t1 := toList_ne hka
          have HKA := Lib.hid hka
          clear hka
          go_wp2_with fail
          go_roundw
          case rel =>
            refine ⟨c + 1, ms, kw, hlt, by go_num, HM.out.1, fun i nd hi hx => ?_, HM.out.2.2.1⟩
            by_cases e : i = c
            · subst e
              rw [HM.out.2.1] at hx
              injection hx with hx
              subst hx
              exact HKA.out
            · exact HNO.out i nd (by omega) hx
          case measure => simp [intOf]; omega
      · obtain rfl : c = ns.length := by omega
        have HNA := Lib.hid (show ∀ nd ∈ ms, nd.kind ≠ kActs from fun nd hnd => by
          obtain ⟨i, hi, rfl⟩ := List.mem_iff_getElem.1 hnd
          exact HNO.out i _ (by rw [← hml]; exact hi) (List.getElem?_eq_getElem hi))
        have HF := Lib.hid (Fewer.drawn hst.small)
        have HN1 := Lib.hid hst.nodes
        have hB1 : Below w.heap.size w wr := below_of_grown (below_alloc _ _) hst.gr (Nat.le_refl _)
        obtain ⟨wz, rfl⟩ : ∃ wz : World, wz = wr := ⟨_, rfl⟩
        clear hst HNO HRD hml

        go_wp2_with fail
        refine (implNodes_any _ ms kw _ HN1.out (HF.out.l64 (by omega))).mono ?_
        rintro e w2 ⟨v2, rfl, hn2, hb⟩
        have hB2 := below_after hB1 hb
        clear hb
        obtain ⟨N2A, N2c, rfl, _, N2m⟩ := hn2.form
        simp only [maxLen] at N2m
        have N2 := Lib.hid hn2
        clear hn2
        have hC2 : Below w2.heap.size w2 w2 := Below.refl _ _
        have F0 := Lib.hid (HF.out.few (by omega) (by omega))
        have hsay : (asKey ms).isSome = true → (rootTree ms).any (hitVal ms ((asKey ms).getD 0)) = true := fun h => by
          obtain ⟨x, hx⟩ := Option.isSome_iff_exists.1 h
          rw [hx]
          exact key_is HNA.out hx
        obtain ⟨z, h1⟩ : ∃ z, (asKey ms).getD 0 = z := ⟨_, rfl⟩
        obtain ⟨y, h2⟩ : ∃ y, (asKey ms).isSome = y := ⟨_, rfl⟩
        rw [h1, h2] at hsay
        have HZ := Lib.hid (And.intro h1 (And.intro h2 hsay))
        clear h1 h2 hsay HNA
        go_wp2_with fail
        refine (asVf N2.out F0.out).mono ?_
        rintro e w3 ⟨rfl, hb⟩
        have hB3 := below_after hB2 hb
        have hC3 := below_after hC2 hb
        rw [HZ.out.1, HZ.out.2.1]
        clear hb
        go_wp2_with fail
        refine (cut_any _ ms kw _ (N2.out.keep hC3) F0.out.len F0.out.kids).mono ?_
        rintro e w4 ⟨v4, kv4, rfl, hn4, hb⟩
        have hB4 := below_after hB3 hb
        have hC4 := below_after hC3 hb
        have hn4' := hn4.nodes
        clear hn4
        clear hb
        obtain ⟨N4A, N4c, rfl, _, N4m⟩ := hn4'.form
        simp only [maxLen] at N4m
        have N4 := Lib.hid hn4'
        clear hn4'
        have F1 := Lib.hid (HF.out.cut.few (by omega) (by omega))
        have F2 := Lib.hid ((HF.out.cut.above (by omega) kActs).few (by omega) (by omega))
        go_wp2_with fail
        refine (above_none kActs _ (cutN ms) kv4 _ N4.out F1.out.len F1.out.kids).mono ?_
        rintro e w5 ⟨v5, kv5, rfl, hn5, hb⟩
        have hB5 := below_after hB4 hb
        have hC5 := below_after hC4 hb
        have hn5' := hn5.nodes
        clear hn5
        clear hb
        obtain ⟨N5A, N5c, rfl, _, N5m⟩ := hn5'.form
        simp only [maxLen] at N5m
        have N5 := Lib.hid hn5'
        clear hn5'
        go_wp2_with fail
        refine (asVf N5.out F2.out).mono ?_
        rintro e w6 ⟨rfl, hb⟩
        have hB6 := below_after hB5 hb
        have hC6 := below_after hC5 hb
        rw [key_above_acts (cutN ms)]
        simp only [Option.getD_some, Option.isSome_some]
        clear hb
        cases y with
        | false =>
          go_wp2_with fail
          go_ret
          exact ⟨rfl, hB6⟩
        | true =>
          have HH := Lib.hid (HZ.out.2.2 rfl)
          go_wp2_with fail
          refine (implIsValue _ ms kw z _ (N2.out.keep hC6) F0.out.len' F0.out.kids').mono ?_
          rintro e w7 ⟨rfl, hb⟩
          have hB7 := below_after hB6 hb
          clear hb
          rw [HH.out]
          go_wp2_with fail
          go_ret
          exact ⟨rfl, hB7⟩

end Go.Proofs.Ytnekgmkonhclbaa
