/-
  The walk of the law FnAsWrapFirst: it returns true.
  Conditions: none but that the bytes are bytes.
-/
import Derived.Test.YtnekgmkonhclbaaWAsAbove
namespace Go.Proofs.Ytnekgmkonhclbaa
open Go.RowKit Go.Lib

theorem treeLen_drawn {ns : List Nd} (h : Drawn8 ns) (j : Nat) (hj : j < ns.length) : treeLen ns j ≤ 1073741824 := by
  have h1 := treeLen_le ns 3 h.kids 8 j hj (by have := h.len; omega)
  have h2 : ((3 : Nat) + 1) ^ 8 = 65536 := by decide
  omega

theorem node_hit {ns : List Nd} {j : Nat} {k : K8} (h : asIx ns k.word = some j) (hk : k ≠ .value) : nodeHit ns j = true := by
  obtain ⟨_, nd, hn, hkd⟩ := asIx_some h
  unfold asIx at h
  unfold nodeHit
  rw [hn]
  simp only
  rw [if_neg (by rw [kind_word_eq hkd]; exact hk)]
  exact List.any_eq_true.2 ⟨j, List.mem_of_find?_eq_some h, by simp⟩

set_option maxHeartbeats 1000000 in
theorem drawAsWrap_any (w : World) (cv : Value) (cl : List Int) (hv : Vals w cv (cl.map (.int .u8))) (hr : ∀ c ∈ cl, 0 ≤ c ∧ c ≤ 255) (hs : cl.length ≤ 1048576) :
    Calls Try.prog 27 #[cv] w (DrewNodes w) := by
  have HD := Lib.hid (drawIsNil_any w cv cl hv hr hs)
  obtain ⟨A, cap, hcv, _, _⟩ := hv.form
  rw [List.length_map] at hcv
  subst hcv
  clear hv hr
  go_enter Try.func27, Try.ntmps27
  go_wp2_with fail
  refine HD.out.mono ?_
  rintro e w1 ⟨v, ns, kv, rfl, hn, hd, hb⟩
  have HS := Lib.hid (And.intro hn (And.intro hd hb))
  obtain ⟨B, capB, rfl, _, _⟩ := hn.form
  clear hn hd hb
  go_wp2_with fail
  go_ret
  exact ⟨_, ns, kv, rfl, HS.out.1, HS.out.2.1, HS.out.2.2⟩

set_option maxRecDepth 100000 in
set_option maxHeartbeats 8000000 in
theorem wFnAsWrapFirst (w : World) (cv : Value) (cl : List Int) (hv : Vals w cv (cl.map (.int .u8))) (hr : ∀ c ∈ cl, 0 ≤ c ∧ c ≤ 255) :
    Calls Try.prog 9 #[cv] w fun e w' => e = .returned (.bool true) ∧ Below w.heap.size w w' := by
  obtain ⟨A, cap, rfl, hlc, hcm⟩ := hv.form
  simp only [List.length_map] at *
  have HV := Lib.hid hv
  have HR := Lib.hid hr
  clear hv hr
  by_cases hbig : 1048576 < cl.length
  · go_enter Try.func9, Try.ntmps9
    go_wp2_with fail
    refine (large_any _ _ _ _).mono ?_
    rintro e w1 ⟨rfl, rfl⟩
    go_wp2_with fail
    go_ret
    exact ⟨rfl, Below.refl _ _⟩
  · have hd : decide (1048576 < cl.length) = false := by simpa using hbig
    go_enter Try.func9, Try.ntmps9
    go_wp2_with fail
    refine (large_any _ _ _ _).mono ?_
    rintro e w1 ⟨rfl, rfl⟩
    rw [hd]
    clear hd
    go_wp2_with fail
    refine (drawAsWrap_any w _ cl HV.out HR.out (by omega)).mono ?_
    rintro e w1 ⟨v1, ns, kv1, rfl, hn1, hd8, hb⟩
    have hB1 := hb
    clear hb
    obtain ⟨N1A, N1c, rfl, _, N1m⟩ := hn1.form
    simp only [maxLen] at N1m
    have N1 := Lib.hid hn1
    clear hn1
    have HF := Lib.hid ((Fewer.drawn hd8).few (by omega) (by omega))
    have HTR := Lib.hid (show ∀ j, j < ns.length → treeLen ns j ≤ 1073741824 from fun j hj => treeLen_drawn hd8 j hj)
    have H64 := Lib.hid ((Fewer.drawn hd8).l64 (by omega))
    have hN8 := hd8.len
    clear hd8
    have hC1 : Below w1.heap.size w1 w1 := Below.refl _ _
    go_wp2_with fail
    refine (implNodes_any _ ns kv1 _ N1.out H64.out).mono ?_
    rintro e w2 ⟨v2, rfl, hn2, hb⟩
    have hB2 := below_after hB1 hb
    have hC2 := below_after hC1 hb
    clear hb
    obtain ⟨N2A, N2c, rfl, _, N2m⟩ := hn2.form
    simp only [maxLen] at N2m
    have N2 := Lib.hid hn2
    clear hn2
    have hD2 : Below w2.heap.size w2 w2 := Below.refl _ _
    go_wp2_with fail
    refine (implAsWrap _ _ _ _ N2.out HF.out.len' HF.out.kids').mono ?_
    rintro e w3 ⟨rfl, hb⟩
    have hB3 := below_after hB2 hb
    have hC3 := below_after hC2 hb
    have hD3 := below_after hD2 hb
    clear hb
    go_wp2_with fail
    refine (implAsMany _ _ _ _ (N2.out.keep hD3) HF.out.len' HF.out.kids').mono ?_
    rintro e w4 ⟨rfl, hb⟩
    have hB4 := below_after hB3 hb
    have hC4 := below_after hC3 hb
    have hD4 := below_after hD3 hb
    clear hb
    cases hW : asIx ns kWrap with
    | none =>
      simp only [Option.map_none, Option.getD_none, Option.isSome_none]
      have HW := Lib.hid hW
      clear hW
      cases hM : asIx ns kMany with
      | none =>
        simp only [Option.map_none, Option.getD_none, Option.isSome_none]
        clear hM
        go_wp2_with fail
        refine (specMade_any _ ns kv1 _ (N1.out.keep hC4) HF.out.len' HF.out.kids').mono ?_
        intro e w5 hmd
        obtain ⟨gi, gk, ks, rfl, hF, hb⟩ := SpecMade.fval hmd (N1.out.keep hC4)
        have HFV := Lib.hid hF
        have hB5 := below_after hB4 hb
        have hC5 := below_after hC4 hb
        have hD5 := below_after hD4 hb
        clear hmd hF hb
        go_wp2_with fail
        refine (tree_root ns _ _ kv1 gi gk ks HTR.out _ HFV.out).mono ?_
        rintro e w6 ⟨g1, cp1, rfl, hown, hb⟩
        have hB6 := below_after hB5 hb
        have hC6 := below_after hC5 hb
        have hD6 := below_after hD5 hb
        have HR1 := Lib.hid (Vals.of_own hown)
        have hcp : (rootTree ns).length ≤ cp1 ∧ cp1 ≤ 9223372036854775807 := by
          have := (Vals.of_own hown).len
          simp only [maxLen] at this
          exact this.2
        have hlen := rootTree_le HTR.out
        clear hown hb HFV
        go_wp2_with fail
        go_loopw [71] (fun vi wr => ∃ c : Nat, c ≤ (rootTree ns).length ∧ vi = .int .i64 c ∧ ((rootTree ns).take c).find? (isKind ns kWrap) = none ∧ Below w6.heap.size w6 wr) (fun vi _ => (rootTree ns).length - (intOf vi).toNat)
        case atStart => exact ⟨0, Nat.zero_le _, rfl, by simp, Below.refl _ _⟩
        case round =>
          obtain ⟨c, hc, rfl, hno, hbel⟩ := hrel
          have hs1 := hbel.size
          have HNO := Lib.hid hno
          have hBr := below_after hB6 hbel
          have hCr := below_after hC6 hbel
          have hDr := below_after hD6 hbel
          clear hno
          by_cases hlt : c < (rootTree ns).length
          · obtain ⟨b, off, hbo, c0⟩ := (HR1.out.keep hbel).at (asInts_get hlt)
            injection hbo with hbo
            injection hbo with e1 e2
            subst e1 e2
            rw [Nat.zero_add] at c0
            have hmem := mem_rootTree (List.getElem_mem hlt)
            have HS := Lib.hid (And.intro (fi_take_none (isKind ns kWrap) (rootTree ns) c hlt HNO.out) (fi_take_some (isKind ns kWrap) (rootTree ns) c hlt HNO.out))
            generalize (rootTree ns)[c] = q at *
            have hq : ns[q]? = some ns[q] := List.getElem?_eq_getElem hmem.1
            obtain ⟨b, off, QA, qc, rfl, hkv, n0, n1, n2, n3, _, _⟩ := (N1.out.keep hCr).at hq
            have HH := Lib.hid (show isKind ns kWrap q = decide (ns[q].kind = kWrap) by unfold isKind; rw [hq])
            clear hkv hq n1 n2 n3
            obtain ⟨hmem, _⟩ := hmem
            generalize ns[q] = nd at *
            obtain ⟨kd, ky, tx, kids⟩ := nd
            dsimp only at n0 HH
            by_cases h1 : kd = kWrap
            · subst h1
              have hf : asIx ns kWrap = some q := HS.out.2 (by rw [HH.out]; simp)
              rw [HW.out] at hf
              cases hf
            · have H1 := Lib.hid (HS.out.1 (by rw [HH.out]; simp [h1]))
              have t1 := toList_ne h1
              clear HH h1
              go_wp2_with fail
              go_roundw
              case rel => exact ⟨c + 1, hlt, by go_num, H1.out, hbel⟩
              case measure => simp [intOf]; omega
          · obtain rfl : c = (rootTree ns).length := by omega
            go_wp2_with fail
            go_ret
            exact ⟨rfl, hBr⟩
      | some jm =>
        obtain ⟨m1h, ⟨mkd, mky, mtx, mkids⟩, m2h, m3h⟩ := asIx_some (k := .many) hM
        obtain rfl : mkd = kMany := word_of_kind m3h
        have Hjm := Lib.hid (And.intro m1h (And.intro m2h (And.intro m3h (node_hit (k := .many) hM (by decide)))))
        have hjml := lt_of_get m2h
        clear m1h m2h m3h
        simp only [Option.map_some, Option.getD_some, Option.isSome_some]
        clear hM
        go_wp2_with fail
        refine (specMade_any _ ns kv1 _ (N1.out.keep hC4) HF.out.len' HF.out.kids').mono ?_
        intro e w5 hmd
        obtain ⟨gi, gk, ks, rfl, hF, hb⟩ := SpecMade.fval hmd (N1.out.keep hC4)
        have HFV := Lib.hid hF
        have hB5 := below_after hB4 hb
        have hC5 := below_after hC4 hb
        have hD5 := below_after hD4 hb
        clear hmd hF hb
        go_wp2_with fail
        refine (tree_root ns _ _ kv1 gi gk ks HTR.out _ HFV.out).mono ?_
        rintro e w6 ⟨g1, cp1, rfl, hown, hb⟩
        have hB6 := below_after hB5 hb
        have hC6 := below_after hC5 hb
        have hD6 := below_after hD5 hb
        have HR1 := Lib.hid (Vals.of_own hown)
        have hcp : (rootTree ns).length ≤ cp1 ∧ cp1 ≤ 9223372036854775807 := by
          have := (Vals.of_own hown).len
          simp only [maxLen] at this
          exact this.2
        have hlen := rootTree_le HTR.out
        clear hown hb HFV
        go_wp2_with fail
        go_loopw [71] (fun vi wr => ∃ c : Nat, c ≤ (rootTree ns).length ∧ vi = .int .i64 c ∧ ((rootTree ns).take c).find? (isKind ns kWrap) = none ∧ Below w6.heap.size w6 wr) (fun vi _ => (rootTree ns).length - (intOf vi).toNat)
        case atStart => exact ⟨0, Nat.zero_le _, rfl, by simp, Below.refl _ _⟩
        case round =>
          obtain ⟨c, hc, rfl, hno, hbel⟩ := hrel
          have hs1 := hbel.size
          have HNO := Lib.hid hno
          have hBr := below_after hB6 hbel
          have hCr := below_after hC6 hbel
          have hDr := below_after hD6 hbel
          clear hno
          by_cases hlt : c < (rootTree ns).length
          · obtain ⟨b, off, hbo, c0⟩ := (HR1.out.keep hbel).at (asInts_get hlt)
            injection hbo with hbo
            injection hbo with e1 e2
            subst e1 e2
            rw [Nat.zero_add] at c0
            have hmem := mem_rootTree (List.getElem_mem hlt)
            have HS := Lib.hid (And.intro (fi_take_none (isKind ns kWrap) (rootTree ns) c hlt HNO.out) (fi_take_some (isKind ns kWrap) (rootTree ns) c hlt HNO.out))
            generalize (rootTree ns)[c] = q at *
            have hq : ns[q]? = some ns[q] := List.getElem?_eq_getElem hmem.1
            obtain ⟨b, off, QA, qc, rfl, hkv, n0, n1, n2, n3, _, _⟩ := (N1.out.keep hCr).at hq
            have HH := Lib.hid (show isKind ns kWrap q = decide (ns[q].kind = kWrap) by unfold isKind; rw [hq])
            clear hkv hq n1 n2 n3
            obtain ⟨hmem, _⟩ := hmem
            generalize ns[q] = nd at *
            obtain ⟨kd, ky, tx, kids⟩ := nd
            dsimp only at n0 HH
            by_cases h1 : kd = kWrap
            · subst h1
              have hf : asIx ns kWrap = some q := HS.out.2 (by rw [HH.out]; simp)
              rw [HW.out] at hf
              cases hf
            · have H1 := Lib.hid (HS.out.1 (by rw [HH.out]; simp [h1]))
              have t1 := toList_ne h1
              clear HH h1
              go_wp2_with fail
              go_roundw
              case rel => exact ⟨c + 1, hlt, by go_num, H1.out, hbel⟩
              case measure => simp [intOf]; omega
          · obtain rfl : c = (rootTree ns).length := by omega
            obtain ⟨_, _, _, _, rfl, _, k_many, _⟩ := (N1.out.keep hCr).at Hjm.out.2.1
            simp only [kMany] at k_many
            go_wp2_with fail
            refine (implIsNode _ ns kv1 jm _ .many _ (N2.out.keep hDr) HF.out.len' HF.out.kids' Hjm.out.1 Hjm.out.2.1 Hjm.out.2.2.1 (by decide)).mono ?_
            rintro e t1 ⟨rfl, hb⟩
            have tC1 := below_after hCr hb
            have tD1 := below_after hDr hb
            have tB1 := below_after hBr hb
            clear hb
            rw [Hjm.out.2.2.2]
            go_wp2_with fail
            go_ret
            exact ⟨rfl, tB1⟩
    | some jw =>
      obtain ⟨w1h, ⟨wkd, wky, wtx, wkids⟩, w2h, w3h⟩ := asIx_some (k := .wrap) hW
      obtain rfl : wkd = kWrap := word_of_kind w3h
      have Hjw := Lib.hid (And.intro w1h (And.intro w2h (And.intro w3h (node_hit (k := .wrap) hW (by decide)))))
      have hjwl := lt_of_get w2h
      clear w1h w2h w3h
      simp only [Option.map_some, Option.getD_some, Option.isSome_some]
      have HW := Lib.hid hW
      clear hW
      cases hM : asIx ns kMany with
      | none =>
        simp only [Option.map_none, Option.getD_none, Option.isSome_none]
        clear hM
        go_wp2_with fail
        refine (specMade_any _ ns kv1 _ (N1.out.keep hC4) HF.out.len' HF.out.kids').mono ?_
        intro e w5 hmd
        obtain ⟨gi, gk, ks, rfl, hF, hb⟩ := SpecMade.fval hmd (N1.out.keep hC4)
        have HFV := Lib.hid hF
        have hB5 := below_after hB4 hb
        have hC5 := below_after hC4 hb
        have hD5 := below_after hD4 hb
        clear hmd hF hb
        go_wp2_with fail
        refine (tree_root ns _ _ kv1 gi gk ks HTR.out _ HFV.out).mono ?_
        rintro e w6 ⟨g1, cp1, rfl, hown, hb⟩
        have hB6 := below_after hB5 hb
        have hC6 := below_after hC5 hb
        have hD6 := below_after hD5 hb
        have HR1 := Lib.hid (Vals.of_own hown)
        have hcp : (rootTree ns).length ≤ cp1 ∧ cp1 ≤ 9223372036854775807 := by
          have := (Vals.of_own hown).len
          simp only [maxLen] at this
          exact this.2
        have hlen := rootTree_le HTR.out
        clear hown hb HFV
        go_wp2_with fail
        go_loopw [71] (fun vi wr => ∃ c : Nat, c ≤ (rootTree ns).length ∧ vi = .int .i64 c ∧ ((rootTree ns).take c).find? (isKind ns kWrap) = none ∧ Below w6.heap.size w6 wr) (fun vi _ => (rootTree ns).length - (intOf vi).toNat)
        case atStart => exact ⟨0, Nat.zero_le _, rfl, by simp, Below.refl _ _⟩
        case round =>
          obtain ⟨c, hc, rfl, hno, hbel⟩ := hrel
          have hs1 := hbel.size
          have HNO := Lib.hid hno
          have hBr := below_after hB6 hbel
          have hCr := below_after hC6 hbel
          have hDr := below_after hD6 hbel
          clear hno
          by_cases hlt : c < (rootTree ns).length
          · obtain ⟨b, off, hbo, c0⟩ := (HR1.out.keep hbel).at (asInts_get hlt)
            injection hbo with hbo
            injection hbo with e1 e2
            subst e1 e2
            rw [Nat.zero_add] at c0
            have hmem := mem_rootTree (List.getElem_mem hlt)
            have HS := Lib.hid (And.intro (fi_take_none (isKind ns kWrap) (rootTree ns) c hlt HNO.out) (fi_take_some (isKind ns kWrap) (rootTree ns) c hlt HNO.out))
            generalize (rootTree ns)[c] = q at *
            have hq : ns[q]? = some ns[q] := List.getElem?_eq_getElem hmem.1
            obtain ⟨b, off, QA, qc, rfl, hkv, n0, n1, n2, n3, _, _⟩ := (N1.out.keep hCr).at hq
            have HH := Lib.hid (show isKind ns kWrap q = decide (ns[q].kind = kWrap) by unfold isKind; rw [hq])
            clear hkv hq n1 n2 n3
            obtain ⟨hmem, _⟩ := hmem
            generalize ns[q] = nd at *
            obtain ⟨kd, ky, tx, kids⟩ := nd
            dsimp only at n0 HH
            by_cases h1 : kd = kWrap
            · subst h1
              have hf : asIx ns kWrap = some q := HS.out.2 (by rw [HH.out]; simp)
              rw [HW.out] at hf
              injection hf with hf
              subst hf
              clear HH HS
              simp only [kWrap] at n0
              obtain ⟨_, _, _, _, e_wrap, _, k_wrap, _⟩ := (N1.out.keep hCr).at Hjw.out.2.1
              injection e_wrap with e_wrap
              injection e_wrap with e1 e2
              subst e1 e2
              simp only [kWrap] at k_wrap
              go_wp2_with fail
              refine (implIsNode _ ns kv1 jw _ .wrap _ (N2.out.keep hDr) HF.out.len' HF.out.kids' Hjw.out.1 Hjw.out.2.1 Hjw.out.2.2.1 (by decide)).mono ?_
              rintro e t1 ⟨rfl, hb⟩
              have tC1 := below_after hCr hb
              have tD1 := below_after hDr hb
              have tB1 := below_after hBr hb
              clear hb
              rw [Hjw.out.2.2.2]
              go_wp2_with fail
              go_ret
              exact ⟨rfl, tB1⟩
            · have H1 := Lib.hid (HS.out.1 (by rw [HH.out]; simp [h1]))
              have t1 := toList_ne h1
              clear HH h1
              go_wp2_with fail
              go_roundw
              case rel => exact ⟨c + 1, hlt, by go_num, H1.out, hbel⟩
              case measure => simp [intOf]; omega
          · obtain rfl : c = (rootTree ns).length := by omega
            have hno := HNO.out
            rw [List.take_length] at hno
            have hf : asIx ns kWrap = none := hno
            rw [HW.out] at hf
            cases hf
      | some jm =>
        obtain ⟨m1h, ⟨mkd, mky, mtx, mkids⟩, m2h, m3h⟩ := asIx_some (k := .many) hM
        obtain rfl : mkd = kMany := word_of_kind m3h
        have Hjm := Lib.hid (And.intro m1h (And.intro m2h (And.intro m3h (node_hit (k := .many) hM (by decide)))))
        have hjml := lt_of_get m2h
        clear m1h m2h m3h
        simp only [Option.map_some, Option.getD_some, Option.isSome_some]
        clear hM
        go_wp2_with fail
        refine (specMade_any _ ns kv1 _ (N1.out.keep hC4) HF.out.len' HF.out.kids').mono ?_
        intro e w5 hmd
        obtain ⟨gi, gk, ks, rfl, hF, hb⟩ := SpecMade.fval hmd (N1.out.keep hC4)
        have HFV := Lib.hid hF
        have hB5 := below_after hB4 hb
        have hC5 := below_after hC4 hb
        have hD5 := below_after hD4 hb
        clear hmd hF hb
        go_wp2_with fail
        refine (tree_root ns _ _ kv1 gi gk ks HTR.out _ HFV.out).mono ?_
        rintro e w6 ⟨g1, cp1, rfl, hown, hb⟩
        have hB6 := below_after hB5 hb
        have hC6 := below_after hC5 hb
        have hD6 := below_after hD5 hb
        have HR1 := Lib.hid (Vals.of_own hown)
        have hcp : (rootTree ns).length ≤ cp1 ∧ cp1 ≤ 9223372036854775807 := by
          have := (Vals.of_own hown).len
          simp only [maxLen] at this
          exact this.2
        have hlen := rootTree_le HTR.out
        clear hown hb HFV
        go_wp2_with fail
        go_loopw [71] (fun vi wr => ∃ c : Nat, c ≤ (rootTree ns).length ∧ vi = .int .i64 c ∧ ((rootTree ns).take c).find? (isKind ns kWrap) = none ∧ Below w6.heap.size w6 wr) (fun vi _ => (rootTree ns).length - (intOf vi).toNat)
        case atStart => exact ⟨0, Nat.zero_le _, rfl, by simp, Below.refl _ _⟩
        case round =>
          obtain ⟨c, hc, rfl, hno, hbel⟩ := hrel
          have hs1 := hbel.size
          have HNO := Lib.hid hno
          have hBr := below_after hB6 hbel
          have hCr := below_after hC6 hbel
          have hDr := below_after hD6 hbel
          clear hno
          by_cases hlt : c < (rootTree ns).length
          · obtain ⟨b, off, hbo, c0⟩ := (HR1.out.keep hbel).at (asInts_get hlt)
            injection hbo with hbo
            injection hbo with e1 e2
            subst e1 e2
            rw [Nat.zero_add] at c0
            have hmem := mem_rootTree (List.getElem_mem hlt)
            have HS := Lib.hid (And.intro (fi_take_none (isKind ns kWrap) (rootTree ns) c hlt HNO.out) (fi_take_some (isKind ns kWrap) (rootTree ns) c hlt HNO.out))
            generalize (rootTree ns)[c] = q at *
            have hq : ns[q]? = some ns[q] := List.getElem?_eq_getElem hmem.1
            obtain ⟨b, off, QA, qc, rfl, hkv, n0, n1, n2, n3, _, _⟩ := (N1.out.keep hCr).at hq
            have HH := Lib.hid (show isKind ns kWrap q = decide (ns[q].kind = kWrap) by unfold isKind; rw [hq])
            clear hkv hq n1 n2 n3
            obtain ⟨hmem, _⟩ := hmem
            generalize ns[q] = nd at *
            obtain ⟨kd, ky, tx, kids⟩ := nd
            dsimp only at n0 HH
            by_cases h1 : kd = kWrap
            · subst h1
              have hf : asIx ns kWrap = some q := HS.out.2 (by rw [HH.out]; simp)
              rw [HW.out] at hf
              injection hf with hf
              subst hf
              clear HH HS
              simp only [kWrap] at n0
              obtain ⟨_, _, _, _, e_wrap, _, k_wrap, _⟩ := (N1.out.keep hCr).at Hjw.out.2.1
              injection e_wrap with e_wrap
              injection e_wrap with e1 e2
              subst e1 e2
              simp only [kWrap] at k_wrap
              obtain ⟨_, _, _, _, e_many, _, k_many, _⟩ := (N1.out.keep hCr).at Hjm.out.2.1
              injection e_many with e_many
              injection e_many with e1 e2
              subst e1 e2
              simp only [kMany] at k_many
              go_wp2_with fail
              refine (implIsNode _ ns kv1 jw _ .wrap _ (N2.out.keep hDr) HF.out.len' HF.out.kids' Hjw.out.1 Hjw.out.2.1 Hjw.out.2.2.1 (by decide)).mono ?_
              rintro e t1 ⟨rfl, hb⟩
              have tC1 := below_after hCr hb
              have tD1 := below_after hDr hb
              have tB1 := below_after hBr hb
              clear hb
              rw [Hjw.out.2.2.2]
              obtain ⟨_, _, _, _, e_x, _, k_x, _⟩ := (N1.out.keep tC1).at Hjm.out.2.1
              injection e_x with e_x
              injection e_x with e1 e2
              subst e1 e2
              simp only [kMany] at k_x
              go_wp2_with fail
              refine (implIsNode _ ns kv1 jm _ .many _ (N2.out.keep tD1) HF.out.len' HF.out.kids' Hjm.out.1 Hjm.out.2.1 Hjm.out.2.2.1 (by decide)).mono ?_
              rintro e t2 ⟨rfl, hb⟩
              have tC2 := below_after tC1 hb
              have tD2 := below_after tD1 hb
              have tB2 := below_after tB1 hb
              clear hb
              rw [Hjm.out.2.2.2]
              go_wp2_with fail
              go_ret
              exact ⟨rfl, tB2⟩
            · have H1 := Lib.hid (HS.out.1 (by rw [HH.out]; simp [h1]))
              have t1 := toList_ne h1
              clear HH h1
              go_wp2_with fail
              go_roundw
              case rel => exact ⟨c + 1, hlt, by go_num, H1.out, hbel⟩
              case measure => simp [intOf]; omega
          · obtain rfl : c = (rootTree ns).length := by omega
            have hno := HNO.out
            rw [List.take_length] at hno
            have hf : asIx ns kWrap = none := hno
            rw [HW.out] at hf
            cases hf

end Go.Proofs.Ytnekgmkonhclbaa
