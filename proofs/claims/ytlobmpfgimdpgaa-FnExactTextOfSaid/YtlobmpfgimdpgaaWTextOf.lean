/-
  The walk of the law FnExactTextOf: it returns true.
  Conditions: the nodes take at most 2^47 - 4096 bytes.
-/
import Derived.Test.YtlobmpfgimdpgaaNodes
import Derived.Test.YtlobmpfgimdpgaaSpecLarge
import Derived.Test.YtlobmpfgimdpgaaTextOf
import Derived.Test.YtlobmpfgimdpgaaSpecText
namespace Go.Proofs.Ytlobmpfgimdpgaa
open Go.RowKit Go.Lib

set_option maxRecDepth 100000 in
set_option maxHeartbeats 4000000 in
theorem wFnExactTextOf (v : Value) (ns : List Nd) (kv : Nat → Value) (w : World) (h : Nodes w v ns kv) (hr : ns.length * 64 ≤ 140737488351232) :
    Calls Try.prog 3 #[v] w fun e w' => e = .returned (.bool true) ∧ Below w.heap.size w w' := by
  obtain ⟨A, cap, rfl, _, hcm⟩ := h.form
  simp only [maxLen] at hcm
  have HN := Lib.hid h
  clear h
  go_enter Try.func3, Try.ntmps3
  go_wp2_with fail
  refine (specNodes_any _ ns kv _ HN.out hr).mono ?_
  rintro e w1 ⟨v1, rfl, hn1, hb⟩
  obtain ⟨NA, nc, rfl, _, hncm⟩ := hn1.form
  simp only [maxLen] at hncm
  have HM := Lib.hid hn1
  have hB1 := hb
  have hC1 : Below w1.heap.size w1 w1 := Below.refl _ _
  clear hn1 hb
  go_wp2_with fail
  refine (large_f _ ns kv _ (HM.out.keep hC1)).mono ?_
  rintro e w2 ⟨bl, rfl, hsm, hb⟩
  have hB2 := below_after hB1 hb
  have hC2 := below_after hC1 hb
  clear hb
  have HSM := Lib.hid hsm
  clear hsm
  cases bl with
  | true =>
    clear HSM
    go_wp2_with fail
    go_ret
    exact ⟨rfl, hB2⟩
  | false =>
    have HS := Lib.hid (HSM.out rfl)
    clear HSM
    have HL := Lib.hid (show ns.length ≤ 68719476736 by have := HS.out.len; omega)
    have HKD := Lib.hid (show ∀ nd ∈ ns, nd.kids.length ≤ 68719476736 from fun nd hnd => by have := (HS.out.each nd hnd).1; omega)
    have HTR := Lib.hid (show ∀ j, j < ns.length → treeLen ns j ≤ 1073741824 from fun j hj => by have := HS.out.tree j hj; omega)
    have HZ := Lib.hid (show ∀ j, j < ns.length → (textOf ns j).size ≤ 1099511627776 from fun j hj => by
      have h1 := textOf_size ns 4096 (by omega) (fun nd hnd => (HS.out.each nd hnd).2) ns.length j hj (by omega)
      have h2 := HS.out.tree j hj
      have h3 : (4096 + 1) * treeLen ns j ≤ (4096 + 1) * 4096 := Nat.mul_le_mul_left _ (by omega)
      omega)
    go_wp2_with fail
    refine (implTextOf _ ns kv _ (HN.out.keep hB2) HL.out HKD.out HZ.out).mono ?_
    rintro e w3 ⟨rfl, hb⟩
    have hB3 := below_after hB2 hb
    have hC3 := below_after hC2 hb
    clear hb
    go_wp2_with fail
    refine (specMade_any _ ns kv _ (HM.out.keep hC3) HL.out HKD.out).mono ?_
    intro e w4 hm
    obtain ⟨gi4, gk4, ks4, rfl, hF, hb⟩ := SpecMade.fval hm (HM.out.keep hC3)
    have HF4 := Lib.hid hF
    clear hm hF
    have hB4 := below_after hB3 hb
    have hC4 := below_after hC3 hb
    clear hb
    go_wp2_with fail
    refine (there_f ns NA nc kv gi4 gk4 ks4 0 _ HF4.out).mono ?_
    rintro e w5 ⟨rfl, hb⟩
    have hB5 := below_after hB4 hb
    have hC5 := below_after hC4 hb
    clear hb
    rw [show thereB ns 0 = isThere ns 0 from thereB_nat ns 0]
    cases hT : isThere ns 0 with
    | false =>
      rw [show rootText ns = ⟨#[]⟩ by unfold rootText; rw [hT]; rfl]
      clear hT
      go_wp2_with fail
      go_ret
      exact ⟨rfl, hB5⟩
    | true =>
      rw [show rootText ns = textOf ns 0 by unfold rootText; rw [hT]; rfl]
      have HT := Lib.hid hT
      clear hT
      go_wp2_with fail
      refine (specMade_any _ ns kv _ (HM.out.keep hC5) HL.out HKD.out).mono ?_
      intro e w6 hm
      obtain ⟨gi6, gk6, ks6, rfl, hF, hb⟩ := SpecMade.fval hm (HM.out.keep hC5)
      have HF6 := Lib.hid hF
      clear hm hF
      have hB6 := below_after hB5 hb
      have hC6 := below_after hC5 hb
      clear hb
      go_wp2_with fail
      refine (text_f ns NA nc kv gi6 gk6 ks6 HKD.out HZ.out ns.length 0 _ (by omega) HT.out HF6.out).mono ?_
      rintro e w7 ⟨rfl, hb⟩
      have hB7 := below_after hB6 hb
      have hC7 := below_after hC6 hb
      clear hb
      generalize textOf ns 0 = tx at *
      go_wp2_with fail
      go_ret
      exact ⟨rfl, hB7⟩

end Go.Proofs.Ytlobmpfgimdpgaa
