/-
  The contract of impl.JoinKids.
  Conditions: at most 2^36 nodes with at most 2^36 kids each, and at most 2^36 indices.
-/
import Derived.Test.YtlobmpfgimdpgaaUnwrap
namespace Go.Proofs.Ytlobmpfgimdpgaa
open Go.RowKit Go.Lib

/-- The errors with some indices that are there. -/
def presentL (ns : List Nd) (l : List Int) : List Nat := l.filterMap fun i => if decide (0 ≤ i) && isThere ns i.toNat then some i.toNat else none
theorem presentL_mem {ns : List Nd} {l : List Int} {j : Nat} (h : j ∈ presentL ns l) : isThere ns j = true := by
  obtain ⟨x, _, hx⟩ := List.mem_filterMap.1 h
  split at hx
  · rename_i hc
    injection hx with hx
    subst hx
    simp only [Bool.and_eq_true] at hc
    exact hc.2
  · cases hx
theorem presentL_cons (ns : List Nd) (i : Int) (r : List Int) : presentL ns (i :: r) = (if (decide (0 ≤ i) && isThere ns i.toNat) = true then [i.toNat] else []) ++ presentL ns r := by
  unfold presentL
  rw [List.filterMap_cons]
  cases hc : (decide (0 ≤ i) && isThere ns i.toNat) <;> rfl
theorem presentL_le (ns : List Nd) (l : List Int) : (presentL ns l).length ≤ l.length := List.length_filterMap_le _ _
theorem atIx_eq (ns : List Nd) (adr : Nat → Nat) (sl : Nat → Value) (i : Int) : atIx ((List.range ns.length).map (valOf ns adr sl)) i = if decide (0 ≤ i) && isThere ns i.toNat then valOf ns adr sl i.toNat else .nilIface := by
  unfold atIx
  by_cases h : 0 ≤ i
  · rw [if_pos h, List.getD_eq_getElem?_getD]
    by_cases hl : i.toNat < ns.length
    · cases ht : isThere ns i.toNat with
      | true => simp [hl, h]
      | false => simp [hl, valOf_not ht]
    · rw [List.getElem?_eq_none (by simp; omega), isThere_none ns _ (by omega)]
      simp
  · rw [if_neg h]
    simp [h]
theorem there_present (ns : List Nd) (adr : Nat → Nat) (sl : Nat → Value) : ∀ l : List Int, there (l.map (atIx ((List.range ns.length).map (valOf ns adr sl)))) = (presentL ns l).map (valOf ns adr sl)
  | [] => rfl
  | i :: r => by
    have ih := there_present ns adr sl r
    have e : there ((i :: r).map (atIx ((List.range ns.length).map (valOf ns adr sl)))) = there [atIx ((List.range ns.length).map (valOf ns adr sl)) i] ++ there (r.map (atIx ((List.range ns.length).map (valOf ns adr sl)))) := by
      rw [List.map_cons]
      exact List.filter_append (p := fun x => !nilB x) [_] _
    rw [e, ih, atIx_eq]
    cases hc : (decide (0 ≤ i) && isThere ns i.toNat) with
    | false =>
      rw [presentL_cons, hc]
      rfl
    | true =>
      have ht : isThere ns i.toNat = true := by simp only [Bool.and_eq_true] at hc; exact hc.2
      have hn : nilB (valOf ns adr sl i.toNat) = false := by rw [valOf_nilB, ht]; rfl
      rw [presentL_cons, hc]
      simp [there, hn]
theorem isErr_atIx (ns : List Nd) (adr : Nat → Nat) (sl : Nat → Value) (i : Int) : IsErr (atIx ((List.range ns.length).map (valOf ns adr sl)) i) := by
  rw [atIx_eq]
  split
  · exact valOf_isErr ns adr sl _
  · exact .inl rfl

theorem many_nil (xT : TypeId) (w : World) : (Instr.typeAssert .nilIface xT 76 true).run Try.prog w = .ok (.tuple #[.nilIface, .bool false]) w := by
  have hz : (Try.prog.info? 76).map (·.zero) = some (some .nilIface) := by kernel_rfl
  obtain ⟨i, hi, hz⟩ := Option.map_eq_some_iff.1 hz
  simp [Instr.typeAssert, run_underlying Try.underlying76, zeroValue, typeInfo, hi, hz]

/-- What JoinKids leaves. -/
def KidsDone (w : World) (ns : List Nd) (l : List Int) (e : Ending) (w' : World) : Prop :=
  ∃ g cp, e = .returned (.tuple #[.slice (some ⟨g, 0, none⟩) (presentL ns l).length cp, .bool (!(presentL ns l).isEmpty)]) ∧ w'.ownsRow w.heap.size 3 1 (.slice (some ⟨g, 0, none⟩) (presentL ns l).length cp) (presentL ns l).length (chainInts (presentL ns l) ns) ∧ Below w.heap.size w w'

set_option maxRecDepth 100000 in
set_option maxHeartbeats 4000000 in
theorem implJoinKids (v iv : Value) (ns : List Nd) (kv : Nat → Value) (l : List Int) (w : World) (h : Nodes w v ns kv) (hi : Ints w iv l) (hn : ns.length ≤ 68719476736) (hk : ∀ nd ∈ ns, nd.kids.length ≤ 68719476736) (hll : l.length ≤ 68719476736) :
    Calls Try.prog 27 #[v, iv] w (KidsDone w ns l) := by
  obtain ⟨A, cap, rfl, _, _⟩ := h.form
  obtain ⟨IA, ic, hiv, _, him⟩ := hi.form
  rw [List.length_map] at hiv
  subst hiv
  simp only [maxLen] at him
  have HM := Lib.hid (made_any _ ns kv w h hn hk)
  have HI := Lib.hid hi
  clear h hk hi
  go_enter Try.func27, Try.ntmps27
  go_wp2_with fail
  refine HM.out.mono ?_
  rintro e w1 ⟨tv, adr, sl, base, rfl, hv, hl, _, hb1⟩
  obtain ⟨TA, tc, rfl, _, _⟩ := hv.form
  simp only [List.length_map, List.length_range] at *
  have HL := Lib.hid (And.intro hl (And.intro hv hb1))
  have hs0 := hb1.size
  clear hl hv HM hb1
  go_wp2_with fail
  go_loopw [7, 20] (fun v7 v20 wr => ∃ c g cp : Nat, c ≤ l.length ∧ v20 = .int .i64 c ∧ v7 = .slice (some ⟨g, 0, none⟩) c cp ∧ wr.ownsRow w1.heap.size 64 1 (.slice (some ⟨g, 0, none⟩) c cp) c ((l.take c).map (atIx ((List.range ns.length).map (valOf ns adr sl)))) ∧ Below w1.heap.size w1 wr) (fun _ v20 _ => l.length - (intOf v20).toNat)
  case atStart => exact ⟨0, w1.heap.size, 0, Nat.zero_le _, rfl, rfl, World.ownsRow_lit w1 #[] 0 (Nat.le_refl _) (by simp [maxLen]) (by simp), below_alloc _ _⟩
  case round =>
    obtain ⟨c, g, cp, hc, rfl, rfl, hown, hbel⟩ := hrel
    have hs1 := hbel.size
    by_cases hlt : c < l.length
    · obtain ⟨b, off, rfl, c0⟩ := Vals.at (k := c) (x := .int .i64 l[c]) (Vals.keep HI.out (below_after HL.out.2.2 hbel)) (by simp [hlt])
      have HS := Lib.hid (show (l.take (c + 1)).map (atIx ((List.range ns.length).map (valOf ns adr sl))) = (l.take c).map (atIx ((List.range ns.length).map (valOf ns adr sl))) ++ [atIx ((List.range ns.length).map (valOf ns adr sl)) l[c]] by rw [List.take_succ_eq_append_getElem hlt, List.map_append]; rfl)
      have HAT := Lib.hid (at_any _ _ l[c] wr (HL.out.2.1.keep hbel))
      have hX := isErr_atIx ns adr sl l[c]
      generalize l[c] = q at *
      generalize atIx ((List.range ns.length).map (valOf ns adr sl)) q = x at *
      rcases hX with rfl | ⟨t, u, rfl⟩
      all_goals
        go_wp2_with (first
          | (go_at_call 38; refine HAT.out.mono ?_; rintro e w2 ⟨rfl, rfl⟩)
          | (at_builtin; refine wpList_push rfl _ _ _ rfl elemErr rfl hown rfl rfl rfl (by simp [Value.oneCell']) (by omega) (by omega) ?_; intro g' cp' w' hown' hbel' hgr' hlt' hat'))
        go_roundw
        case rel => exact ⟨c + 1, g', cp', hlt, by go_num, rfl, by rw [HS.out]; exact hown', hbel.trans hbel'⟩
        case measure => simp [intOf]; omega
    · obtain rfl : c = l.length := by omega
      rw [List.take_length] at hown
      have hjv := Vals.of_own hown
      have HJ := Lib.hid (join_any _ _ wr hjv (fun x hx => by obtain ⟨i, _, rfl⟩ := List.mem_map.1 hx; exact isErr_atIx ns adr sl i) (by rw [List.length_map]; omega))
      have HTP := Lib.hid (there_present ns adr sl l)
      have hBr := below_after HL.out.2.2 hbel
      have HBR := Lib.hid (And.intro hBr hbel)
      clear hown hjv hBr hbel
      go_wp2_with fail
      refine HJ.out.mono ?_
      rintro e w3 ⟨hb3, hj⟩
      have hB3 := below_after HBR.out.1 hb3
      have hC3 := below_after HBR.out.2 hb3
      rw [HTP.out] at hj
      have hs3 := hB3.size
      clear hb3 HJ
      rcases hj with ⟨h0, rfl⟩ | ⟨h0, g5, sv5, rfl, hg5, hh5, ho5⟩
      · have hT := many_nil
        have HE := Lib.hid (show presentL ns l = [] by simpa using h0)
        clear h0
        go_wp2_with fail
        go_ret2
        refine ⟨w3.heap.size, 0, ?_, ?_, hB3.alloc hs3 _⟩
        · rw [HE.out]; rfl
        · rw [HE.out]; exact World.ownsRow_lit w3 #[] 0 hs3 (by simp [maxLen]) (by simp)
      · have hT := many_join
        have hM := methU_join
        have hv5 := Vals.of_own ho5
        rw [List.length_map] at ho5
        obtain ⟨A5, c5, hsv5, _, h5m⟩ := hv5.form
        rw [List.length_map] at hsv5
        subst hsv5
        simp only [maxLen] at h5m
        have HE := Lib.hid (show (presentL ns l).isEmpty = false by
          cases hp : presentL ns l with
          | nil => rw [hp] at h0; exact absurd rfl h0
          | cons a r => rfl)
        have hpl := presentL_le ns l
        have HU := Lib.hid (show ∀ o, Calls Try.prog 83 #[.pointer (some ⟨g5, 0, none⟩)] (w3.alloc o) fun e w' => e = .returned (.slice A5 (presentL ns l).length c5) ∧ w3.alloc o = w' from fun o => unwrap_join g5 _ (w3.alloc o) (cell_of_heap (heap_keep (below_alloc w3 o) hh5) 0 rfl))
        have HV5 := Lib.hid hv5
        have HPM := Lib.hid (fun j => presentL_mem (ns := ns) (l := l) (j := j))
        clear h0 hh5 ho5 hv5 hg5
        generalize hP : presentL ns l = P at *
        have HP := Lib.hid hP
        clear hP
        go_wp2_with (go_at_call 83; refine (HU.out _).mono ?_; rintro e w4 ⟨rfl, rfl⟩)
        go_loopw [12, 42] (fun v12 v42 wr => ∃ c g cp : Nat, c ≤ P.length ∧ v42 = .int .i64 c ∧ v12 = .slice (some ⟨g, 0, none⟩) c cp ∧ wr.ownsRow w3.heap.size 3 1 (.slice (some ⟨g, 0, none⟩) c cp) c (chainInts (P.take c) ns) ∧ Below w3.heap.size w3 wr) (fun _ v42 _ => P.length - (intOf v42).toNat)
        case atStart => exact ⟨0, w3.heap.size, 0, Nat.zero_le _, rfl, rfl, World.ownsRow_lit w3 #[] 0 (Nat.le_refl _) (by simp [maxLen]) (by simp), below_alloc _ _⟩
        case round =>
          obtain ⟨c, g, cp, hc, rfl, rfl, hown, hbel⟩ := hrel
          have hs6 := hbel.size
          by_cases hlt : c < P.length
          · obtain ⟨b, off, rfl, c0⟩ := (HV5.out.keep hbel).at (k := c) (x := valOf ns adr sl P[c]) (by simp [hlt])
            have HS := Lib.hid (show chainInts (P.take (c + 1)) ns = chainInts (P.take c) ns ++ [.int .i64 (leastOf ns P[c] : Nat)] by unfold chainInts; rw [List.take_succ_eq_append_getElem hlt, List.map_append]; rfl)
            have hj := HPM.out P[c] (List.getElem_mem hlt)
            have hD := below_after hC3 hbel
            have HIX := Lib.hid (index_any _ wr (HL.out.2.1.keep hD) (HL.out.1.keep hD) hj hn)
            generalize P[c] = q at *
            generalize leastOf ns q = lq at *
            generalize valOf ns adr sl q = x at *
            clear hj hD
            go_wp2_with fail
            refine HIX.out.mono ?_
            rintro e w7 ⟨rfl, hb7⟩
            have hown7 := own_below hown hb7
            have hb7s := hb7.size
            have HB7 := Lib.hid (below_after hbel hb7)
            clear hb7 hown hbel
            go_wp2_with (at_builtin; refine wpList_push rfl _ _ _ rfl elemInts rfl hown7 rfl rfl rfl (by simp [Value.oneCell']) (by omega) (by omega) ?_; intro g' cp' w' hown' hbel' hgr' hlt' hat')
            go_roundw
            case rel => exact ⟨c + 1, g', cp', hlt, by go_num, rfl, by rw [HS.out]; exact hown', HB7.out.trans hbel'⟩
            case measure => simp [intOf]; omega
          · obtain rfl : c = P.length := by omega
            rw [List.take_length] at hown
            have SF := Lib.hid (And.intro hown (below_after hB3 hbel))
            clear hown hbel
            go_wp2_with fail
            go_ret2
            refine ⟨g, cp, ?_, ?_, SF.out.2⟩
            · rw [HP.out, HE.out]
              rfl
            · rw [HP.out]
              exact World.ownsRow.mono_base SF.out.1 hs3
end Go.Proofs.Ytlobmpfgimdpgaa
