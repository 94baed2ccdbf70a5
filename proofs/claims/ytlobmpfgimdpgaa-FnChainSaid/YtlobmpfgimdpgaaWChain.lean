/-
  The walk of the law FnChain: it returns true.
  Conditions: none but that the bytes are bytes.
-/
import Derived.Test.YtlobmpfgimdpgaaDrawChain
import Derived.Test.YtlobmpfgimdpgaaPlainChain
import Derived.Test.YtlobmpfgimdpgaaBeside
import Derived.Test.YtlobmpfgimdpgaaLarge
import Derived.Deep.QuietTactic
import Derived.BigQuiet
import Derived.Outline
namespace Go.Proofs.Ytlobmpfgimdpgaa
open Go.RowKit Go.Lib

theorem mem_chain (ns : List Nd) : ∀ (m i : Nat), i < ns.length → ns.length - i ≤ m → ∀ j ∈ chainOf ns i, j < ns.length := by
  intro m
  induction m with
  | zero => intro i hi hm; omega
  | succ m ih =>
    intro i hi hm j hj
    rw [chainOf_eq ns i hi] at hj
    rcases List.mem_cons.1 hj with rfl | hj
    · exact hi
    · cases hu : unwrapOf ns i with
      | none => rw [hu] at hj; simp at hj
      | some q =>
        rw [hu] at hj
        have := unwrapOf_lt hu
        exact ih q this.2.1 (by omega) j hj

theorem least_le (ns : List Nd) (j : Nat) : leastOf ns j ≤ j := by
  unfold leastOf
  cases hn : ns[j]? with
  | none => exact Nat.le_refl _
  | some nd =>
    simp only
    split
    · rename_i hk
      obtain ⟨m, x, hf, hmj, _⟩ := firstVal_spec hn hk
      rw [hf]
      exact hmj
    · exact Nat.le_refl _

/-- The chains of nodes and of those with one above, and what is next. -/
theorem chains {ns : List Nd} (h : Cutted ns) (hl : ns.length ≤ 1048576) : ∃ l : List Nat, (∀ x ∈ l, x ≤ 1048576) ∧ l.length ≤ 1048576 ∧ (rootChain ns).length = l.length ∧ (rootChain (aboveN kWrap ns [])).length = l.length + 1 ∧
    chainInts (rootChain ns) ns = l.map (fun x : Nat => Value.int .i64 (x : Int)) ∧ chainInts (rootChain (aboveN kWrap ns [])) (aboveN kWrap ns []) = .int .i64 0 :: l.map (fun x : Nat => Value.int .i64 ((x : Int) + 1)) ∧
    ((l.length < 2 ∧ rootUnwrap ns = -1) ∨ (∃ x : Nat, l[1]? = some x ∧ rootUnwrap ns = (x : Int))) := by
  have hmem : ∀ j ∈ rootChain ns, j < ns.length := fun j hj => by
    unfold rootChain at hj
    split at hj
    · rename_i ht
      exact mem_chain ns _ 0 (isThere_lt ht) (Nat.le_refl _) j hj
    · simp at hj
  refine ⟨(rootChain ns).map (leastOf ns), fun x hx => by obtain ⟨j, hj, rfl⟩ := List.mem_map.1 hx; have := least_le ns j; have := hmem j hj; omega, by rw [List.length_map]; have := rootChain_length ns; omega, by simp, by rw [chain_above h hl]; simp, by unfold chainInts; rw [List.map_map]; rfl, ?_, ?_⟩
  · rw [chain_above h hl]
    unfold chainInts
    rw [List.map_cons, least_zero, List.map_map, List.map_map]
    congr 1
    refine List.map_congr_left fun j hj => ?_
    have hjl : j < ns.length := hmem j hj
    show Value.int .i64 ((leastOf (aboveN kWrap ns []) (j + 1) : Nat) : Int) = _
    rw [least_above h hl hjl]
    rfl
  · unfold rootChain rootUnwrap
    cases hT : isThere ns 0 with
    | false =>
      have : unwrapOf ns 0 = none := by unfold unwrapOf; rw [hT]; rfl
      rw [this]
      exact .inl ⟨by simp, rfl⟩
    | true =>
      rw [if_pos rfl, chainOf_eq ns 0 (isThere_lt hT)]
      cases hu : unwrapOf ns 0 with
      | none => exact .inl ⟨by simp, rfl⟩
      | some q =>
        have := unwrapOf_lt hu
        refine .inr ⟨leastOf ns q, ?_, rfl⟩
        simp only
        rw [chainOf_eq ns q this.2.1]
        rfl

set_option maxRecDepth 100000 in
set_option maxHeartbeats 8000000 in
theorem wFnChain (w : World) (cv : Value) (cl : List Int) (hv : Vals w cv (cl.map (.int .u8))) (hr : ∀ c ∈ cl, 0 ≤ c ∧ c ≤ 255) :
    Calls Try.prog 9 #[cv] w fun e w' => e = .returned (.bool true) ∧ Below w.heap.size w w' := by
  obtain ⟨A, cap, rfl, hlc, hcm⟩ := hv.form
  simp only [List.length_map] at *
  have HV := Lib.hid hv
  have HR := Lib.hid hr
  clear hv hr
  by_cases hbig : 1048576 < cl.length
  · go_enter Try.func9, Try.ntmps9
    go_wp2_with fail
    refine (large_any _ _ _ _).mono ?_
    rintro e w1 ⟨rfl, rfl⟩
    go_wp2_with fail
    go_ret
    exact ⟨rfl, Below.refl _ _⟩
  · have hd : decide (1048576 < cl.length) = false := by simpa using hbig
    go_enter Try.func9, Try.ntmps9
    go_wp2_with fail
    refine (large_any _ _ _ _).mono ?_
    rintro e w1 ⟨rfl, rfl⟩
    rw [hd]
    clear hd
    go_wp2_with fail
    refine (drawUnwrapChain_any w _ cl HV.out HR.out (by omega)).mono ?_
    rintro e w1 ⟨v1, ns, kv1, rfl, hn1, hd1, hb⟩
    have hB1 := hb
    clear hb
    obtain ⟨N1A, N1c, rfl, _, N1m⟩ := hn1.form
    simp only [maxLen] at N1m
    have N1 := Lib.hid hn1
    clear hn1
    have HF := Lib.hid (Fewer.drawn hd1)
    clear hd1
    go_wp2_with fail
    refine (implNodes_any _ ns kv1 _ N1.out (HF.out.l64 (by omega))).mono ?_
    rintro e w2 ⟨v2, rfl, hn2, hb⟩
    have hB2 := below_after hB1 hb
    clear hb
    obtain ⟨N2A, N2c, rfl, _, N2m⟩ := hn2.form
    simp only [maxLen] at N2m
    have N2 := Lib.hid hn2
    clear hn2
    go_wp2_with fail
    refine (cut_any _ ns kv1 _ N2.out (HF.out.few (by omega) (by omega)).len (HF.out.few (by omega) (by omega)).kids).mono ?_
    rintro e w3 ⟨v3, kv3, rfl, hn3, hb⟩
    have hB3 := below_after hB2 hb
    have hn3' := hn3.nodes
    clear hn3
    clear hb
    obtain ⟨N3A, N3c, rfl, _, N3m⟩ := hn3'.form
    simp only [maxLen] at N3m
    have N3 := Lib.hid hn3'
    clear hn3'
    have hC3 : Below w3.heap.size w3 w3 := Below.refl _ _
    have HC := Lib.hid (And.intro (cutN_cutted ns) HF.out.cut)
    clear HF N1 N2
    generalize cutN ns = ms at *
    have HFM := Lib.hid (HC.out.2.few (by omega) (by omega))
    obtain ⟨l, hle, hl20, hl1, hl2, hci, hca, hnx⟩ := chains HC.out.1 HFM.out.len
    have HX := Lib.hid (And.intro hl1 (And.intro hl2 (And.intro hci (And.intro hca hnx))))
    have HLE := Lib.hid hle
    clear hl1 hl2 hci hca hnx hle
    go_wp2_with fail
    refine (implUnwrapChain _ ms kv3 _ (N3.out.keep hC3) HFM.out.len' HFM.out.kids').mono ?_
    rintro e w4 ⟨r1, rfl, hr1, hb⟩
    have hB4 := below_after hB3 hb
    have hC4 := below_after hC3 hb
    rw [HX.out.1, HX.out.2.2.1] at hr1
    have hv1 := Vals.of_own hr1
    clear hr1
    obtain ⟨R1, rc1, hre1, _, hrm1⟩ := hv1.form
    rw [List.length_map] at hre1
    subst hre1
    simp only [maxLen] at hrm1
    have HV1 := Lib.hid hv1
    clear hv1
    clear hb
    have hD4 : Below w4.heap.size w4 w4 := Below.refl _ _
    go_wp2_with fail
    refine (above_none kWrap _ ms kv3 _ (N3.out.keep hC4) HFM.out.len HFM.out.kids).mono ?_
    rintro e w5 ⟨z4, kz4, rfl, hz4, hb⟩
    have hB5 := below_after hB4 hb
    have hC5 := below_after hC4 hb
    have hD5 := below_after hD4 hb
    have hz4' := hz4.nodes
    clear hz4
    clear hb
    obtain ⟨Z4A, Z4c, rfl, _, Z4m⟩ := hz4'.form
    simp only [maxLen] at Z4m
    have Z4 := Lib.hid hz4'
    clear hz4'
    go_wp2_with fail
    refine (implUnwrapChain _ (aboveN kWrap ms []) kz4 _ Z4.out ((HC.out.2.above (by omega) kWrap).few (by omega) (by omega)).len' ((HC.out.2.above (by omega) kWrap).few (by omega) (by omega)).kids').mono ?_
    rintro e w6 ⟨r2, rfl, hr2, hb⟩
    have hB6 := below_after hB5 hb
    have hC6 := below_after hC5 hb
    have hD6 := below_after hD5 hb
    rw [HX.out.2.1, HX.out.2.2.2.1] at hr2
    have hv2 := Vals.of_own hr2
    clear hr2 Z4
    obtain ⟨R2, rc2, hre2, _, hrm2⟩ := hv2.form
    rw [List.length_cons, List.length_map] at hre2
    subst hre2
    simp only [maxLen] at hrm2
    have HV2 := Lib.hid hv2
    clear hv2
    clear hb
    have hE6 : Below w6.heap.size w6 w6 := Below.refl _ _
    obtain ⟨b2, off2, rfl, c0⟩ := HV2.out.at (k := 0) (x := .int .i64 0) rfl
    simp only [Nat.add_zero] at c0
    go_wp2_with fail
    clear c0
    go_loopw [33] (fun v33 wr => ∃ c : Nat, c ≤ l.length ∧ v33 = .int .i64 c ∧ Below w6.heap.size w6 wr) (fun v33 _ => l.length - (intOf v33).toNat)
    case atStart => exact ⟨0, Nat.zero_le _, rfl, Below.refl _ _⟩
    case round =>
      obtain ⟨c, hc, rfl, hbel⟩ := hrel
      have hBr := below_after hB6 hbel
      have hDr := below_after hD6 hbel
      have hCr := below_after hC6 hbel
      by_cases hlt : c < l.length
      · obtain ⟨b1, off1, rfl, c1⟩ := (HV1.out.keep hDr).at (k := c) (x := .int .i64 (l[c] : Int)) (by simp [hlt])
        obtain ⟨b3, off3, e, c2⟩ := (HV2.out.keep hbel).at (k := c + 1) (x := .int .i64 ((l[c] : Int) + 1)) (by simp [hlt])
        injection e with e
        injection e with e1 e2
        subst e1 e2
        have hxb := HLE.out l[c] (List.getElem_mem hlt)
        generalize l[c] = x at c1 c2 hxb
        go_wp2_with fail
        go_quiet (fail)
        go_wp2_with fail
        go_roundw
        case rel => exact ⟨c + 1, hlt, by go_num, below_drewN' hbel _⟩
        case measure => simp [intOf]; omega
      · obtain rfl : c = l.length := by omega
        go_wp2_with fail
        refine (implUnwrapRoot _ ms kv3 _ (N3.out.keep hCr) HFM.out.len' HFM.out.kids').mono ?_
        rintro e w9 ⟨rfl, hb⟩
        have hB9 := below_after hBr hb
        have hD9 := below_after hDr hb
        clear hb
        rcases HX.out.2.2.2.2 with ⟨h2, hn⟩ | ⟨x, hx, hn⟩
        · rw [hn]
          clear hn
          go_wp2_with fail
          go_ret
          exact ⟨rfl, hB9⟩
        · rw [hn]
          have hl1 : 1 < l.length := (List.getElem?_eq_some_iff.1 hx).1
          obtain ⟨b1, off1, rfl, c1⟩ := (HV1.out.keep hD9).at (k := 1) (x := .int .i64 (x : Int)) (by simp [hx])
          clear hn hx
          go_wp2_with fail
          go_ret
          exact ⟨rfl, hB9⟩

end Go.Proofs.Ytlobmpfgimdpgaa
