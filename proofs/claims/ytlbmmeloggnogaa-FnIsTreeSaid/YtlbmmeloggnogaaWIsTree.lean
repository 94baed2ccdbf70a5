/-
  The walk of the law FnIsTree: it returns true.
  Conditions: none but that the bytes are bytes.
-/
import Derived.Test.YtlbmmeloggnogaaDrawIsNil
import Derived.Test.YtlbmmeloggnogaaWIs
import Derived.Test.YtlbmmeloggnogaaLarge
namespace Go.Proofs.Ytlbmmeloggnogaa
open Go.RowKit Go.Lib

theorem nodeHit_self {ns : List Nd} {i : Nat} (h : i ∈ rootTree ns) : nodeHit ns i = true := by
  have hi := (mem_rootTree h).1
  have hn : ns[i]? = some ns[i] := List.getElem?_eq_getElem hi
  unfold nodeHit
  rw [hn]
  simp only
  split
  · rename_i hk
    refine List.any_eq_true.2 ⟨i, h, ?_⟩
    unfold hitVal
    rw [hn]
    simp [hk]
  · exact List.any_eq_true.2 ⟨i, h, by simp⟩

theorem word_ne {k q : K8} (h : k ≠ q) : k.word ≠ q.word := by
  intro e
  have := congrArg kindOf e
  rw [kindOf_word, kindOf_word] at this
  injection this with this
  exact h this

theorem Drawn8.l64 {ns : List Nd} (h : Drawn8 ns) : ns.length * 64 ≤ 140737488351232 := by have := h.len; omega

set_option maxRecDepth 100000 in
set_option maxHeartbeats 4000000 in
theorem wFnIsTree (w : World) (cv : Value) (cl : List Int) (hv : Vals w cv (cl.map (.int .u8))) (hr : ∀ c ∈ cl, 0 ≤ c ∧ c ≤ 255) :
    Calls Try.prog 8 #[cv] w fun e w' => e = .returned (.bool true) ∧ Below w.heap.size w w' := by
  obtain ⟨A, cap, rfl, _, _⟩ := hv.form
  simp only [List.length_map] at *
  have HV := Lib.hid hv
  have HR := Lib.hid hr
  clear hv hr
  by_cases hbig : 1048576 < cl.length
  · go_enter Try.func8, Try.ntmps8
    go_wp2_with fail
    refine (large_any _ _ _ _).mono ?_
    rintro e w1 ⟨rfl, rfl⟩
    go_wp2_with fail
    go_ret
    exact ⟨rfl, Below.refl _ _⟩
  · have hd : decide (1048576 < cl.length) = false := by simpa using hbig
    go_enter Try.func8, Try.ntmps8
    go_wp2_with fail
    refine (large_any _ _ _ _).mono ?_
    rintro e w1 ⟨rfl, rfl⟩
    rw [hd]
    clear hd
    go_wp2_with fail
    refine (drawIsNil_any w _ cl HV.out HR.out (by omega)).mono ?_
    rintro e w1 ⟨v1, ns, kv, rfl, hn1, hd8, hB1⟩
    obtain ⟨NA, nc, rfl, _, hncm⟩ := hn1.form
    simp only [maxLen] at hncm
    have HM := Lib.hid (And.intro hn1 hd8)
    clear hn1 hd8
    go_wp2_with fail
    refine (large_f _ ns kv _ HM.out.1).mono ?_
    rintro e w2 ⟨bl, rfl, hsm, hb⟩
    have hB2 := below_after hB1 hb
    have hC2 := hb
    clear hb
    have HSM := Lib.hid hsm
    clear hsm
    cases bl with
    | true =>
      clear HSM
      go_wp2_with fail
      go_ret
      exact ⟨rfl, hB2⟩
    | false =>
      have HS := Lib.hid (HSM.out rfl)
      have HL := Lib.hid (show ns.length ≤ 68719476736 by have := HS.out.len; omega)
      have HKD := Lib.hid (show ∀ nd ∈ ns, nd.kids.length ≤ 68719476736 from fun nd hnd => by have := (HS.out.each nd hnd).1; omega)
      have HTR := Lib.hid (show ∀ j, j < ns.length → treeLen ns j ≤ 1073741824 from fun j hj => by have := HS.out.tree j hj; omega)
      clear HSM
      go_wp2_with fail
      refine (specMade_any _ ns kv _ (HM.out.1.keep hC2) HL.out HKD.out).mono ?_
      intro e w3 hm
      obtain ⟨gi, gk, ks, rfl, hF, hb⟩ := SpecMade.fval hm (HM.out.1.keep hC2)
      have HF := Lib.hid hF
      have hB3 := below_after hB2 hb
      have hC3 := below_after hC2 hb
      clear hm hF hb
      go_wp2_with fail
      refine (tree_root ns NA nc kv gi gk ks HTR.out _ HF.out).mono ?_
      rintro e w4 ⟨g4, cp4, rfl, hown4, hb⟩
      have hB4 := below_after hB3 hb
      have hC4 := below_after hC3 hb
      have HT := Lib.hid (Vals.of_own hown4)
      have hcp : (rootTree ns).length ≤ cp4 ∧ cp4 ≤ 9223372036854775807 := by
        have := (Vals.of_own hown4).len
        simp only [maxLen] at this
        exact this.2
      clear hown4 hb HF
      go_wp2_with fail
      go_loopw [16] (fun v16 wr => ∃ c : Nat, c ≤ (rootTree ns).length ∧ v16 = .int .i64 c ∧ Below w4.heap.size w4 wr) (fun v16 _ => (rootTree ns).length - (intOf v16).toNat)
      case atStart => exact ⟨0, Nat.zero_le _, rfl, Below.refl _ _⟩
      case round =>
        obtain ⟨c, hc, rfl, hbel⟩ := hrel
        by_cases hlt : c < (rootTree ns).length
        · obtain ⟨b, off, hbo, c0⟩ := (HT.out.keep hbel).at (asInts_get hlt)
          injection hbo with hbo
          injection hbo with e1 e2
          subst e1 e2
          rw [Nat.zero_add] at c0
          have hmem := mem_rootTree (List.getElem_mem hlt)
          have HH := Lib.hid (nodeHit_self (List.getElem_mem hlt))
          generalize (rootTree ns)[c] = q at *
          obtain ⟨hql, hqt⟩ := hmem
          have hq : ns[q]? = some ns[q] := List.getElem?_eq_getElem hql
          have hC5 := below_after hC4 hbel
          obtain ⟨b, off, QA, qc, rfl, hkv, n0, n1, n2, n3, _, _⟩ := (HM.out.1.keep hC5).at hq
          obtain ⟨nd, k, hnd, hkd⟩ := isThere_kind hqt
          have HQ := Lib.hid (And.intro hqt (And.intro hnd hkd))
          have hkk : ns[q].kind = k.word := by
            rw [hq] at hnd
            injection hnd with hnd
            rw [hnd]
            exact word_of_kind hkd
          rw [hkk] at n0
          clear hkv n1 n2 n3 hq hnd hkd hqt hkk
          have hl64 := HM.out.2.l64
          by_cases hkl : k = .list
          · subst hkl
            simp only [K8.word, kList] at n0
            go_wp2_with fail
            go_roundw
            case rel => exact ⟨c + 1, hlt, by go_num, hbel⟩
            case measure => simp [intOf]; omega
          by_cases hkj : k = .join
          · subst hkj
            simp only [K8.word, kJoin] at n0
            clear hkl
            go_wp2_with fail
            go_roundw
            case rel => exact ⟨c + 1, hlt, by go_num, hbel⟩
            case measure => simp [intOf]; omega
          have tl : (k.word.toList == [108, 105, 115, 116]) = false := toList_ne (word_ne hkl)
          have tj : (k.word.toList == [106, 111, 105, 110]) = false := toList_ne (word_ne hkj)
          have HKL := Lib.hid hkl
          clear hkl hkj
          generalize k.word = kw at *
          go_wp2_with fail
          refine (implNodes_any _ ns kv _ (HM.out.1.keep hC5) hl64).mono ?_
          rintro e w6 ⟨v6, rfl, hn6, hb6⟩
          obtain ⟨NB, nd6, rfl, _, _⟩ := hn6.form
          have hD6 := below_after hbel hb6
          have HN6 := Lib.hid hn6
          clear hn6 hb6
          go_wp2_with fail
          refine (implIsNode _ ns kv q _ _ _ HN6.out HL.out HKD.out HQ.out.1 HQ.out.2.1 HQ.out.2.2 HKL.out).mono ?_
          rintro e w7 ⟨rfl, hb7⟩
          rw [HH.out]
          have hD7 := below_after hD6 hb7
          clear hb7
          go_wp2_with fail
          go_roundw
          case rel => exact ⟨c + 1, hlt, by go_num, hD7⟩
          case measure => simp [intOf]; omega
        · go_wp2_with fail
          go_ret
          exact ⟨rfl, below_after hB4 hbel⟩
end Go.Proofs.Ytlbmmeloggnogaa
