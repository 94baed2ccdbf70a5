/-
  The walk of the law FnExactJoinKids: it returns true.
  Conditions: the nodes take at most 2^47 - 4096 bytes, and there are at most 2^36 indices.
-/
import Derived.Test.YtlobmpfgimdpgaaNodes
import Derived.Test.YtlobmpfgimdpgaaSpecLarge
import Derived.Test.YtlobmpfgimdpgaaSpecChain
import Derived.Test.YtlobmpfgimdpgaaSpecPresent
namespace Go.Proofs.Ytlobmpfgimdpgaa
open Go.RowKit Go.Lib

theorem chainInts_ints (l : List Nat) (ns : List Nd) : chainInts l ns = (l.map fun j => ((leastOf ns j : Nat) : Int)).map (.int .i64) := by unfold chainInts; rw [List.map_map]; rfl

set_option maxRecDepth 100000 in
set_option maxHeartbeats 4000000 in
theorem wFnExactJoinKids (v iv : Value) (ns : List Nd) (kv : Nat → Value) (l : List Int) (w : World) (h : Nodes w v ns kv) (hi : Ints w iv l) (hr : ns.length * 64 ≤ 140737488351232) (hll : l.length ≤ 68719476736) :
    Calls Try.prog 6 #[v, iv] w fun e w' => e = .returned (.bool true) ∧ Below w.heap.size w w' := by
  obtain ⟨A, cap, rfl, _, hcm⟩ := h.form
  simp only [maxLen] at hcm
  obtain ⟨IA, ic, hiv, _, _⟩ := hi.form
  rw [List.length_map] at hiv
  subst hiv
  have HN := Lib.hid h
  have HI := Lib.hid hi
  clear h hi
  go_enter Try.func6, Try.ntmps6
  go_wp2_with fail
  refine (specNodes_any _ ns kv _ HN.out hr).mono ?_
  rintro e w1 ⟨v1, rfl, hn1, hb⟩
  obtain ⟨NA, nc, rfl, _, hncm⟩ := hn1.form
  simp only [maxLen] at hncm
  have HM := Lib.hid hn1
  have hB1 := hb
  have hC1 : Below w1.heap.size w1 w1 := Below.refl _ _
  clear hn1 hb
  go_wp2_with fail
  refine (large_f _ ns kv _ (HM.out.keep hC1)).mono ?_
  rintro e w2 ⟨bl, rfl, hsm, hb⟩
  have hB2 := below_after hB1 hb
  have hC2 := below_after hC1 hb
  clear hb
  have HSM := Lib.hid hsm
  clear hsm
  cases bl with
  | true =>
    clear HSM
    go_wp2_with fail
    go_ret
    exact ⟨rfl, hB2⟩
  | false =>
    have HS := Lib.hid (HSM.out rfl)
    clear HSM
    have HL := Lib.hid (show ns.length ≤ 68719476736 by have := HS.out.len; omega)
    have HKD := Lib.hid (show ∀ nd ∈ ns, nd.kids.length ≤ 68719476736 from fun nd hnd => by have := (HS.out.each nd hnd).1; omega)
    have HTR := Lib.hid (show ∀ j, j < ns.length → treeLen ns j ≤ 1073741824 from fun j hj => by have := HS.out.tree j hj; omega)
    go_wp2_with fail
    refine (implJoinKids _ _ ns kv l _ (HN.out.keep hB2) (Vals.keep HI.out hB2) HL.out HKD.out hll).mono ?_
    rintro e w3 ⟨g1, cp1, rfl, hr1, hb⟩
    have hB3 := below_after hB2 hb
    have hC3 := below_after hC2 hb
    clear hb
    have HV1 := Lib.hid (Vals.of_own hr1)
    clear hr1
    have hD3 : Below w3.heap.size w3 w3 := Below.refl _ _
    go_wp2_with fail
    refine (specMade_any _ ns kv _ (HM.out.keep hC3) HL.out HKD.out).mono ?_
    intro e w4 hm
    obtain ⟨gi4, gk4, ks4, rfl, hF, hb⟩ := SpecMade.fval hm (HM.out.keep hC3)
    have hD4 := hb
    have HF4 := Lib.hid hF
    clear hm hF
    have hB4 := below_after hB3 hb
    have hC4 := below_after hC3 hb
    clear hb
    go_wp2_with fail
    refine (present_f ns NA nc kv gi4 gk4 ks4 _ l HL.out hll _ HF4.out (Vals.keep HI.out hB4)).mono ?_
    rintro e w5 ⟨g2, cp2, rfl, hr2, hb⟩
    have hD5 := below_after hD4 hb
    have hB5 := below_after hB4 hb
    have hC5 := below_after hC4 hb
    clear hb
    have HV2 := Lib.hid (Vals.of_own hr2)
    clear hr2
    have hsame := same_any (.slice (some ⟨g1, 0, none⟩) (presentL ns l).length cp1) (.slice (some ⟨g2, 0, none⟩) (presentL ns l).length cp2) ((presentL ns l).map fun j => ((leastOf ns j : Nat) : Int)) w5 (by rw [← chainInts_ints]; exact HV1.out.keep hD5) (by rw [← chainInts_ints]; exact HV2.out)
    have HSM2 := Lib.hid hsame
    clear hsame
    generalize presentL ns l = P at *
    go_wp2_with fail
    refine (HSM2.out).mono ?_
    rintro e w6 ⟨rfl, hb⟩
    have hB6 := below_after hB5 hb
    have hC6 := below_after hC5 hb
    clear hb
    cases P with
    | nil =>
      go_wp2_with fail
      go_ret
      exact ⟨rfl, hB6⟩
    | cons a r =>
      have hpos : decide ((0 : Int) < ((r.length + 1 : Nat) : Int)) = true := decide_eq_true (by omega)
      go_wp2_with fail
      go_ret
      exact ⟨rfl, hB6⟩

end Go.Proofs.Ytlobmpfgimdpgaa
