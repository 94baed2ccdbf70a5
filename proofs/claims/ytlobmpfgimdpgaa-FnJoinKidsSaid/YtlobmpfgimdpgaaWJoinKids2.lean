/-
  The walk of the law FnJoinKids: it returns true.
  Conditions: none but that the bytes are bytes.
-/
import Derived.Test.YtlobmpfgimdpgaaWJoinKids
import Derived.Test.YtlobmpfgimdpgaaDrawKids
import Derived.Test.YtlobmpfgimdpgaaLarge
namespace Go.Proofs.Ytlobmpfgimdpgaa
open Go.RowKit Go.Lib

theorem presentL_one (ns : List Nd) (i : Int) : presentL ns [i] = if thereB ns i = true then [i.toNat] else [] := by
  rw [presentL_cons]
  simp [presentL, thereB]
theorem presentL_take (ns : List Nd) (l : List Int) (c : Nat) (h : c < l.length) : presentL ns (l.take (c + 1)) = presentL ns (l.take c) ++ presentL ns [l[c]] := by
  rw [List.take_succ_eq_append_getElem h, presentL_append]
theorem presentL_at (ns : List Nd) (l : List Int) (c : Nat) (h : c < l.length) (k : Nat) (hk : presentL ns [l[c]] = [k]) : (presentL ns l)[(presentL ns (l.take c)).length]? = some k := by
  have e : presentL ns l = presentL ns (l.take c) ++ (presentL ns [l[c]] ++ presentL ns (l.drop (c + 1))) := by
    rw [← presentL_append, ← presentL_append]
    congr 1
    rw [List.singleton_append, ← List.drop_eq_getElem_cons h, List.take_append_drop]
  rw [e, List.getElem?_append_right (Nat.le_refl _), Nat.sub_self, hk]
  rfl

set_option maxRecDepth 100000 in
set_option maxHeartbeats 8000000 in
theorem wFnJoinKids (w : World) (cv : Value) (cl : List Int) (hv : Vals w cv (cl.map (.int .u8))) (hr : ∀ c ∈ cl, 0 ≤ c ∧ c ≤ 255) :
    Calls Try.prog 7 #[cv] w fun e w' => e = .returned (.bool true) ∧ Below w.heap.size w w' := by
  obtain ⟨A, cap, rfl, hlc, hcm⟩ := hv.form
  simp only [List.length_map] at *
  have HV := Lib.hid hv
  have HR := Lib.hid hr
  clear hv hr
  by_cases hbig : 1048576 < cl.length
  · go_enter Try.func7, Try.ntmps7
    go_wp2_with fail
    refine (large_any _ _ _ _).mono ?_
    rintro e w1 ⟨rfl, rfl⟩
    go_wp2_with fail
    go_ret
    exact ⟨rfl, Below.refl _ _⟩
  · have hd : decide (1048576 < cl.length) = false := by simpa using hbig
    go_enter Try.func7, Try.ntmps7
    go_wp2_with fail
    refine (large_any _ _ _ _).mono ?_
    rintro e w1 ⟨rfl, rfl⟩
    rw [hd]
    clear hd
    go_wp2_with fail
    refine (drawJoinKids_any w _ cl HV.out HR.out (by omega)).mono ?_
    rintro e w1 ⟨v1, ns, kv, iv, l, rfl, hn1, hd8, hi1, hl4, hb⟩
    have hB1 := hb
    clear hb
    obtain ⟨IA, ic, hiv, _, him⟩ := hi1.form
    rw [List.length_map] at hiv
    subst hiv
    simp only [maxLen] at him
    have HI := Lib.hid hi1
    clear hi1
    obtain ⟨N1A, N1c, rfl, _, N1m⟩ := hn1.form
    simp only [maxLen] at N1m
    have N1 := Lib.hid hn1
    clear hn1
    have HD := Lib.hid hd8
    clear hd8
    have HL := Lib.hid (show ns.length ≤ 68719476736 by have := HD.out.len; omega)
    have HKD := Lib.hid (show ∀ nd ∈ ns, nd.kids.length ≤ 68719476736 from fun nd hnd => by have := HD.out.kids nd hnd; omega)
    have hl64 : ns.length * 64 ≤ 140737488351232 := by have := HD.out.len; omega
    have hC1 : Below w1.heap.size w1 w1 := Below.refl _ _
    go_wp2_with fail
    refine (implNodes_any _ ns kv _ N1.out hl64).mono ?_
    rintro e w2 ⟨v2, rfl, hn2, hb⟩
    have hB2 := below_after hB1 hb
    have hC2 := below_after hC1 hb
    clear hb
    obtain ⟨N2A, N2c, rfl, _, N2m⟩ := hn2.form
    simp only [maxLen] at N2m
    have N2 := Lib.hid hn2
    clear hn2
    have hD2 : Below w2.heap.size w2 w2 := Below.refl _ _
    go_wp2_with fail
    refine (implJoinKids _ _ ns kv l _ N2.out (Vals.keep HI.out hC2) HL.out HKD.out (by omega)).mono ?_
    rintro e w3 ⟨g3, cp3, rfl, hr3, hb⟩
    have hB3 := below_after hB2 hb
    have hC3 := below_after hC2 hb
    have hD3 := below_after hD2 hb
    clear hb
    have hv3 := Vals.of_own hr3
    have hcp3 : (presentL ns l).length ≤ cp3 ∧ cp3 ≤ 9223372036854775807 := by have := hv3.len; simp only [maxLen] at this; exact this.2
    have HV3 := Lib.hid hv3
    clear hr3 hv3
    have hpl := presentL_le ns l
    have hE3 : Below w3.heap.size w3 w3 := Below.refl _ _
    go_wp2_with fail
    go_loopw [8, 30] (fun v8 v30 wr => ∃ c : Nat, c ≤ l.length ∧ v30 = .int .i64 c ∧ v8 = .int .i64 ((presentL ns (l.take c)).length : Nat) ∧ Below w3.heap.size w3 wr) (fun _ v30 _ => l.length - (intOf v30).toNat)
    case atStart => exact ⟨0, Nat.zero_le _, rfl, rfl, Below.refl _ _⟩
    case round =>
      obtain ⟨c, hc, rfl, rfl, hbel⟩ := hrel
      by_cases hlt : c < l.length
      · have hCr := below_after hC3 hbel
        have hDr := below_after hD3 hbel
        obtain ⟨b, off, rfl, c0⟩ := Vals.at (k := c) (x := .int .i64 l[c]) (Vals.keep HI.out hCr) (by simp [hlt])
        have HPT := Lib.hid (presentL_take ns l c hlt)
        have HPA := Lib.hid (presentL_at ns l c hlt)
        have HP1 := Lib.hid (presentL_one ns l[c])
        have hlc : (presentL ns (l.take c)).length ≤ 4 := by have h1 := presentL_le ns (l.take c); have h2 : (l.take c).length ≤ c := List.length_take_le _ _; omega
        generalize l[c] = q at *
        go_wp2_with fail
        refine (implJoinKids _ _ ns kv [q] _ ((N2.out.keep hDr).keep (below_alloc _ _)) (Vals.lit wr #[.int .i64 q] 3 1 rfl (by omega)) HL.out HKD.out (by simp)).mono ?_
        rintro e w4 ⟨g4, cp4, rfl, hr4, hb4⟩
        have hB4 := below_after hbel (below_box hb4)
        have hv4 := Vals.of_own hr4
        have hcp4 : (presentL ns [q]).length ≤ cp4 ∧ cp4 ≤ 9223372036854775807 := by have := hv4.len; simp only [maxLen] at this; exact this.2
        have HV4 := Lib.hid hv4
        clear hr4 hb4 hv4
        cases hT : thereB ns q with
        | false =>
          have hp1 : presentL ns [q] = [] := by rw [HP1.out, hT]; rfl
          have HN := Lib.hid (show presentL ns (l.take (c + 1)) = presentL ns (l.take c) by rw [HPT.out, hp1, List.append_nil])
          rw [hp1]
          clear hT hp1 HV4 hcp4
          go_wp2_with fail
          go_roundw
          case rel => exact ⟨c + 1, hlt, by go_num, by rw [HN.out], hB4⟩
          case measure => simp [intOf]; omega
        | true =>
          have hp1 : presentL ns [q] = [q.toNat] := by rw [HP1.out, hT]; rfl
          have hat := HPA.out q.toNat hp1
          have HN := Lib.hid (show (presentL ns (l.take (c + 1))).length = (presentL ns (l.take c)).length + 1 by rw [HPT.out, hp1, List.length_append]; rfl)
          have hlt2 : (presentL ns (l.take c)).length < (presentL ns l).length := lt_of_get hat
          have hv4 := HV4.out
          rw [hp1] at hv4 hcp4 ⊢
          obtain ⟨b4, o4, hbo, k0⟩ := hv4.at (k := 0) (x := .int .i64 (leastOf ns q.toNat : Nat)) rfl
          injection hbo with hbo
          injection hbo with e1 e2
          subst e1 e2
          obtain ⟨b5, o5, hbo5, k1⟩ := (HV3.out.keep hB4).at (k := (presentL ns (l.take c)).length) (x := .int .i64 (leastOf ns q.toNat : Nat)) (by unfold chainInts; rw [List.getElem?_map, hat]; rfl)
          injection hbo5 with hbo5
          injection hbo5 with e3 e4
          subst e3 e4
          rw [Nat.zero_add] at k0 k1
          have hge : decide (((presentL ns l).length : Int) ≤ ((presentL ns (l.take c)).length : Int)) = false := decide_eq_false (by omega)
          clear hT hp1 HV4 hv4 hat HPA HPT HP1
          generalize hA1 : (presentL ns (l.take c)).length = n1 at *
          have HA1 := Lib.hid hA1
          clear hA1
          generalize leastOf ns q.toNat = lq at *
          simp only [List.length_singleton] at *
          have hq9 : (((lq : Nat) : Int) != ((lq : Nat) : Int)) = false := by simp
          go_wp2_with fail
          go_quiet (fail)
          go_wp2_with fail
          go_roundw
          case rel => exact ⟨c + 1, hlt, by go_num, by rw [HN.out]; go_num, below_drewN' hB4 _⟩
          case measure => simp [intOf]; omega
      · obtain rfl : c = l.length := by omega
        rw [List.take_length]
        have hCr := below_after hC3 hbel
        have hBr := below_after hB3 hbel
        have HPF := Lib.hid (fun (NA : Option Addr) (nc gi gk : Nat) (ks : Nat → Value) (W : World) (F : FVal W ns NA nc kv gi gk ks) (hI : Ints W (.slice IA l.length ic) l) => present_f ns NA nc kv gi gk ks _ l HL.out (by omega) W F hI)
        clear hbel HV3
        generalize presentL ns l = P at *
        cases P with
        | nil =>
          simp only [List.length_nil, List.isEmpty_nil] at *
          go_wp2_with fail
          refine (specMade_any _ ns kv _ (N1.out.keep hCr) HL.out HKD.out).mono ?_
          intro e w5 hm
          obtain ⟨gi, gk, ks, rfl, hF, hb5⟩ := SpecMade.fval hm (N1.out.keep hCr)
          have HF := Lib.hid hF
          have hB5 := below_after hBr hb5
          have hC5 := below_after hCr hb5
          clear hm hF hb5
          go_wp2_with fail
          refine (HPF.out _ _ gi gk ks _ HF.out (Vals.keep HI.out hC5)).mono ?_
          rintro e w6 ⟨g6, cp6, rfl, _, hb6⟩
          have hB6 := below_after hB5 hb6
          clear hb6
          go_wp2_with fail
          go_ret
          exact ⟨rfl, hB6⟩
        | cons a r =>
          have hpos : decide ((0 : Int) < ((r.length + 1 : Nat) : Int)) = true := decide_eq_true (by omega)
          simp only [List.length_cons, List.isEmpty_cons] at *
          go_wp2_with fail
          refine (specMade_any _ ns kv _ (N1.out.keep hCr) HL.out HKD.out).mono ?_
          intro e w5 hm
          obtain ⟨gi, gk, ks, rfl, hF, hb5⟩ := SpecMade.fval hm (N1.out.keep hCr)
          have HF := Lib.hid hF
          have hB5 := below_after hBr hb5
          have hC5 := below_after hCr hb5
          clear hm hF hb5
          go_wp2_with fail
          refine (HPF.out _ _ gi gk ks _ HF.out (Vals.keep HI.out hC5)).mono ?_
          rintro e w6 ⟨g6, cp6, rfl, _, hb6⟩
          have hB6 := below_after hB5 hb6
          clear hb6
          go_wp2_with fail
          go_ret
          exact ⟨rfl, hB6⟩

end Go.Proofs.Ytlobmpfgimdpgaa
