/-
  The contract of the reference's Large: where it says no, there are few nodes with few kids and short texts, and all trees are small.
  Conditions: none.
-/
import Derived.Test.YtccoeajjomfmnaaDoorFVal
import Derived.Test.YtccoeajjomfmnaaDoorSpecMadeW
import Derived.RegionTactic
import Derived.BigRegion
import Derived.IntWalk
import Derived.Outline
namespace Go.Proofs.YtccoeajjomfmnaaDoor
open Go.RowKit Go.Lib

theorem SpecMade.fval {w w' : World} {ns : List Nd} {kv : Nat → Value} {NA : Option Addr} {nc : Nat} {e : Ending} (h : SpecMade w (.slice NA ns.length nc) ns e w') (hn : Nodes w (.slice NA ns.length nc) ns kv) :
    ∃ gi gk ks, e = .returned (.agg #[.slice NA ns.length nc, .slice (some ⟨gi, 0, none⟩) ns.length ns.length, .slice (some ⟨gk, 0, none⟩) ns.length ns.length]) ∧ FVal w' ns NA nc kv gi gk ks ∧ Below w.heap.size w w' := by
  obtain ⟨gi, gk, ks, rfl, hb, h1, h2, h3⟩ := h
  exact ⟨gi, gk, ks, rfl, ⟨hn.keep hb, h1, h2, h3⟩, hb⟩

/-- Nodes that are not large. -/
structure Small (ns : List Nd) : Prop where
  len : ns.length ≤ 200
  each : ∀ nd ∈ ns, nd.kids.length ≤ 200 ∧ nd.text.size ≤ 4096
  tree : ∀ j, j < ns.length → treeLen ns j < 4096

/-- How large a tree is while the kids from c on are still to come. -/
def partLen (ns : List Nd) (m c : Nat) : Nat := 1 + (((kidsOf ns m).take c).map (treeLen ns)).sum
theorem partLen_succ (ns : List Nd) (m c : Nat) (h : c < (kidsOf ns m).length) : partLen ns m (c + 1) = partLen ns m c + treeLen ns (kidsOf ns m)[c] := by
  unfold partLen
  rw [List.take_succ_eq_append_getElem h, List.map_append, List.sum_append]
  simp
  omega
theorem partLen_all (ns : List Nd) (m : Nat) (h : m < ns.length) : partLen ns m (kidsOf ns m).length = treeLen ns m := by
  unfold partLen
  rw [List.take_length, treeLen_eq ns m h]

/-- The sizes while the nodes below m are still to come. -/
def sizesTo (ns : List Nd) (m : Nat) : List Value := (List.range ns.length).map fun j => if j < m then .int .i64 0 else .int .i64 (treeLen ns j : Nat)
theorem sizesTo_length (ns : List Nd) (m : Nat) : (sizesTo ns m).length = ns.length := by simp [sizesTo]
theorem sizesTo_get {ns : List Nd} {m j : Nat} (h : j < ns.length) : (sizesTo ns m)[j]? = some (if j < m then .int .i64 0 else .int .i64 (treeLen ns j : Nat)) := by simp [sizesTo, h]
theorem sizesTo_none (ns : List Nd) : sizesTo ns ns.length = List.replicate ns.length (.int .i64 0) := by
  apply List.ext_getElem?
  intro j
  by_cases hj : j < ns.length
  · rw [sizesTo_get hj, if_pos hj]; simp [hj]
  · rw [List.getElem?_eq_none (by rw [sizesTo_length]; omega), List.getElem?_eq_none (by simp; omega)]
theorem sizesTo_step {ns : List Nd} {m : Nat} (h : m < ns.length) : sizesTo ns m = (sizesTo ns (m + 1)).set m (.int .i64 (treeLen ns m : Nat)) := by
  apply List.ext_getElem?
  intro j
  by_cases hj : j < ns.length
  · rw [sizesTo_get hj, List.getElem?_set]
    by_cases hjm : m = j
    · subst hjm
      simp [sizesTo_length, h]
    · rw [if_neg hjm, sizesTo_get hj]
      congr 1
      by_cases h1 : j < m
      · rw [if_pos h1, if_pos (by omega)]
      · rw [if_neg h1, if_neg (by omega)]
  · rw [List.getElem?_eq_none (by rw [sizesTo_length]; omega), List.getElem?_eq_none (by rw [List.length_set, sizesTo_length]; omega)]

theorem zeroInt : (Tryd.prog.info? 3).map (·.zero) = some (some (.int .i64 0)) := by kernel_rfl

/-- The relation of the loop over the nodes: the sizes from m on are known. -/
def SizeRel (w2 : World) (gs : Nat) (ns : List Nd) (m : Nat) (wr : World) : Prop :=
  wr.ownsRow w2.heap.size 3 1 (.slice (some ⟨gs, 0, none⟩) ns.length ns.length) ns.length (sizesTo ns m) ∧ Below w2.heap.size w2 wr ∧ ∀ j, m ≤ j → j < ns.length → treeLen ns j < 4096
/-- The relation of the loop over the kids. -/
def KidRel (w2 : World) (gs : Nat) (ns : List Nd) (m c : Nat) (wr : World) : Prop :=
  wr.ownsRow w2.heap.size 3 1 (.slice (some ⟨gs, 0, none⟩) ns.length ns.length) ns.length ((sizesTo ns (m + 1)).set m (.int .i64 ((min (partLen ns m c) 4096 : Nat) : Int))) ∧ Below w2.heap.size w2 wr

/-- What Large leaves. -/
def LargeDone (w : World) (ns : List Nd) (e : Ending) (w' : World) : Prop := ∃ b : Bool, e = .returned (.bool b) ∧ (b = false → Small ns) ∧ Below w.heap.size w w'
theorem LargeDone.yes {w w' : World} {ns : List Nd} (h : Below w.heap.size w w') : LargeDone w ns (.returned (.bool true)) w' := ⟨true, rfl, (fun h => by cases h), h⟩

set_option maxRecDepth 100000 in
set_option maxHeartbeats 4000000 in
theorem large_f (v : Value) (ns : List Nd) (kv : Nat → Value) (w : World) (h : Nodes w v ns kv) :
    Calls Tryd.prog 15 #[v] w (LargeDone w ns) := by
  obtain ⟨NA, nc, rfl, _, hm⟩ := h.form
  simp only [maxLen] at hm
  have H := Lib.hid h
  clear h
  by_cases hbig : 200 < ns.length
  · go_enter Tryd.func15, Tryd.ntmps15
    go_wp2_with fail
    go_ret
    exact .yes (Below.refl _ _)
  · have hd200 : decide ((200 : Int) < (ns.length : Int)) = false := by simp; omega
    go_enter Tryd.func15, Tryd.ntmps15
    go_wp2_with fail
    clear hd200
    go_loopw [15] (fun v15 wr => ∃ c : Nat, c ≤ ns.length ∧ v15 = .int .i64 c ∧ (∀ nd ∈ ns.take c, nd.kids.length ≤ 200 ∧ nd.text.size ≤ 4096) ∧ Below w.heap.size w wr) (fun v15 _ => ns.length - (intOf v15).toNat)
    case atStart => exact ⟨0, Nat.zero_le _, rfl, by simp, Below.refl _ _⟩
    case round =>
      obtain ⟨c, hc, rfl, hall, hbel⟩ := hrel
      have HA := Lib.hid hall
      clear hall
      have hs1 := hbel.size
      by_cases hlt : c < ns.length
      · have hq : ns[c]? = some ns[c] := List.getElem?_eq_getElem hlt
        obtain ⟨b, off, QA, qc, rfl, hkv, n0, n1, n2, n3, hq1, hq2⟩ := (H.out.keep hbel).at hq
        have HT := Lib.hid (List.take_succ_eq_append_getElem hlt)
        clear hkv hq
        generalize ns[c] = nd at *
        obtain ⟨kd, ky, tx, kids⟩ := nd
        dsimp only at n0 n1 n2 n3 hq1
        simp only [maxLen] at hq2
        have hstep : ∀ v, Below w.heap.size w (wr.alloc v) := fun v => hbel.alloc hbel.size _
        by_cases hk : 200 < kids.length
        · have hd : decide ((200 : Int) < (kids.length : Int)) = true := by simp; omega
          go_wp2_with fail
          go_ret
          exact .yes (hstep _)
        · have hd : decide ((200 : Int) < (kids.length : Int)) = false := by simp; omega
          by_cases htx : 4096 < tx.size
          · go_wp2_with fail
            go_ret
            exact .yes (hstep _)
          · go_wp2_with fail
            go_roundw
            case rel =>
              refine ⟨c + 1, hlt, by go_num, ?_, hstep _⟩
              intro nd hnd
              rw [HT.out] at hnd
              rcases List.mem_append.1 hnd with hnd | hnd
              · exact HA.out nd hnd
              · rw [List.mem_singleton] at hnd
                subst hnd
                exact ⟨by dsimp only; omega, by dsimp only; omega⟩
            case measure => simp [intOf]; omega
      · obtain rfl : c = ns.length := by omega
        have hall := HA.out
        rw [List.take_length] at hall
        have HA := Lib.hid hall
        clear hall
        have HM := Lib.hid (specMade_any _ ns kv wr (H.out.keep hbel) (by omega) (fun nd hnd => by have := (HA.out nd hnd).1; omega))
        obtain ⟨CS, hCS, hmk⟩ := elemInts.make zeroInt rfl ns.length (by omega) (by omega)
        go_wp2_with fail
        refine HM.out.mono ?_
        intro e w1 hmade
        obtain ⟨gi, gk, ks, rfl, hF, hb1⟩ := SpecMade.fval hmade (H.out.keep hbel)
        clear hmade
        have HF := Lib.hid (And.intro hF hb1)
        clear hF hb1 HM
        go_wp2_with fail
        clear hmk
        have hR0 : SizeRel (w1.alloc (.cells #[.slice NA ns.length nc, .slice (some ⟨gi, 0, none⟩) ns.length ns.length, .slice (some ⟨gk, 0, none⟩) ns.length ns.length] 37)) (w1.heap.size + 1) ns ns.length ((w1.alloc (.cells #[.slice NA ns.length nc, .slice (some ⟨gi, 0, none⟩) ns.length ns.length, .slice (some ⟨gk, 0, none⟩) ns.length ns.length] 37)).alloc (.cells CS 3)) := by
          have hs : CS.size = ns.length := by rw [← Array.length_toList, hCS]; simp
          refine ⟨?_, below_alloc _ _, fun j h1 h2 => by omega⟩
          have := World.ownsRow_lit (base := (w1.alloc (.cells #[.slice NA ns.length nc, .slice (some ⟨gi, 0, none⟩) ns.length ns.length, .slice (some ⟨gk, 0, none⟩) ns.length ns.length] 37)).heap.size) (e := 3) (size := 1) (w1.alloc (.cells #[.slice NA ns.length nc, .slice (some ⟨gi, 0, none⟩) ns.length ns.length, .slice (some ⟨gk, 0, none⟩) ns.length ns.length] 37)) CS ns.length (Nat.le_refl _) (by simp only [maxLen]; omega) (by omega)
          rw [sizesTo_none, ← hCS]
          simpa using this
        have hbox := heap_alloc_new w1 (.cells #[.slice NA ns.length nc, .slice (some ⟨gi, 0, none⟩) ns.length ns.length, .slice (some ⟨gk, 0, none⟩) ns.length ns.length] 37)
        have hF2 := HF.out.1.keep (below_alloc w1 (.cells #[.slice NA ns.length nc, .slice (some ⟨gi, 0, none⟩) ns.length ns.length, .slice (some ⟨gk, 0, none⟩) ns.length ns.length] 37))
        have hgs : (w1.alloc (.cells #[.slice NA ns.length nc, .slice (some ⟨gi, 0, none⟩) ns.length ns.length, .slice (some ⟨gk, 0, none⟩) ns.length ns.length] 37)).heap.size = w1.heap.size + 1 := by simp
        have hBw : Below w.heap.size w (w1.alloc (.cells #[.slice NA ns.length nc, .slice (some ⟨gi, 0, none⟩) ns.length ns.length, .slice (some ⟨gk, 0, none⟩) ns.length ns.length] 37)) := below_after (below_after hbel HF.out.2) (below_alloc _ _)
        generalize (w1.alloc (.cells #[.slice NA ns.length nc, .slice (some ⟨gi, 0, none⟩) ns.length ns.length, .slice (some ⟨gk, 0, none⟩) ns.length ns.length] 37)) = w2 at *
        have R0 := Lib.hid hR0
        have HX := Lib.hid (And.intro hbox (And.intro hF2 (And.intro hgs hBw)))
        have hgs1 : w2.heap.size ≤ w1.heap.size + 1 := by omega
        have hgs2 : w1.heap.size < w2.heap.size := by omega
        clear hR0 hCS HF hbox hF2 hgs hBw
        go_loopw [7] (fun v7 wr => ∃ (m : Nat) (z : Int), m ≤ ns.length ∧ z + 1 = (m : Int) ∧ v7 = .int .i64 z ∧ SizeRel w2 (w1.heap.size + 1) ns m wr) (fun v7 _ => (intOf v7 + 1).toNat)
        case atStart => exact ⟨ns.length, (ns.length : Int) - 1, Nat.le_refl _, by omega, rfl, R0.out⟩
        case round =>
          obtain ⟨m, z, hm, hz, rfl, hown, hb2, hsm⟩ := hrel
          clear R0
          cases m with
          | zero =>
            obtain rfl : z = -1 := by omega
            have HE := Lib.hid (And.intro hb2 hsm)
            clear hsm hown hb2
            go_wp2_with fail
            go_ret
            exact ⟨false, rfl, fun _ => ⟨by omega, HA.out, fun j hj => HE.out.2 j (Nat.zero_le _) hj⟩, HX.out.2.2.2.trans (HE.out.1.mono HX.out.2.2.2.size)⟩
          | succ m =>
            obtain rfl : z = (m : Int) := by omega
            clear hz
            have hmn : m < ns.length := hm
            have ct := hown.cellAt m (by omega)
            rw [sizesTo_get hmn, if_pos (by omega)] at ct
            have cf := hown.frozenAt m
            have hbs : ∀ x, Below w2.heap.size w2 (wr.setCell ⟨w1.heap.size + 1, m, none⟩ x) := fun x => hb2.setCell (p := ⟨w1.heap.size + 1, m, none⟩) hgs1 x
            obtain ⟨KA, kc, hks, hkl, hkm⟩ := (HX.out.2.1.kids m hmn).form
            rw [asInts_length] at hkl
            simp only [maxLen] at hkm
            have d2 : ∀ x, (wr.setCell ⟨w1.heap.size + 1, m, none⟩ x).cell? ⟨w1.heap.size, 2, none⟩ = some (.slice (some ⟨gk, 0, none⟩) ns.length ns.length) := fun x => (box3 (heap_keep (hbs x) HX.out.1)).2.2
            have dK : ∀ x, (wr.setCell ⟨w1.heap.size + 1, m, none⟩ x).cell? ⟨gk, m, none⟩ = some (.slice KA (kidsOf ns m).length kc) := fun x => by
              obtain ⟨b, off, e, h⟩ := rows_at (HX.out.2.1.keep (hbs x)).rows hmn
              injection e with e
              injection e with e1 e2
              subst e1 e2
              rw [hks, asInts_length, Nat.zero_add] at h
              exact h
            have hK0 : KidRel w2 (w1.heap.size + 1) ns m 0 (wr.setCell ⟨w1.heap.size + 1, m, none⟩ (.int .i64 1)) := ⟨by
              have := (hown.stored m (.int .i64 1)).1
              simpa [partLen] using this, hbs _⟩
            have hkv := HX.out.2.1.kids m hmn
            rw [hks, asInts_length] at hkv
            have K0 := Lib.hid hK0
            have HKV := Lib.hid (And.intro hkv hsm)
            clear hK0 hkv hbs hown hks hsm
            go_wp2_with fail
            clear d2 dK ct cf hb2
            obtain ⟨wo, hwo⟩ : ∃ wo : World, wo = wr.setCell ⟨w1.heap.size + 1, m, none⟩ (.int .i64 1) := ⟨_, rfl⟩
            rw [← hwo] at K0 ⊢
            clear hwo
            go_loopw [51] (fun v51 wr => ∃ c : Nat, c ≤ (kidsOf ns m).length ∧ v51 = .int .i64 c ∧ KidRel w2 (w1.heap.size + 1) ns m c wr) (fun v51 _ => (kidsOf ns m).length - (intOf v51).toNat)
            case atStart => exact ⟨0, Nat.zero_le _, rfl, K0.out⟩
            case round =>
              obtain ⟨c, hc, rfl, hown, hb3⟩ := hrel
              clear K0
              by_cases hlt : c < (kidsOf ns m).length
              · obtain ⟨b, off, rfl, c0⟩ := (HKV.out.1.keep hb3).at (asInts_get hlt)
                have hq := kidsOf_mem (List.getElem_mem hlt)
                have HP := Lib.hid (partLen_succ ns m c hlt)
                generalize (kidsOf ns m)[c] = q at *
                obtain ⟨hq1, hq2, _⟩ := hq
                have ct := hown.cellAt m (by omega)
                rw [List.getElem?_set_self (by rw [sizesTo_length]; exact hmn)] at ct
                have cq := hown.cellAt q (by omega)
                rw [List.getElem?_set_ne (by omega), sizesTo_get hq2, if_neg (by omega)] at cq
                have cf := hown.frozenAt m
                have hst := hown.stored m (.int .i64 ((min (min (partLen ns m c) 4096 + treeLen ns q) 4096 : Nat) : Int))
                rw [List.set_set] at hst
                have hbs : ∀ x, Below w2.heap.size w2 (wr.setCell ⟨w1.heap.size + 1, m, none⟩ x) := fun x => hb3.setCell (p := ⟨w1.heap.size + 1, m, none⟩) hgs1 x
                have HS := Lib.hid (And.intro hst hbs)
                have hs4 := HKV.out.2 q (by omega) hq2
                clear hst hbs hown
                generalize hx : min (partLen ns m c) 4096 = x at *
                have hx4 : x ≤ 4096 := by omega
                have HXX := Lib.hid hx
                clear hx
                generalize treeLen ns q = tq at *
                have g1 : IntKind.i64.wrap ((x : Int) + (tq : Int)) = (x : Int) + (tq : Int) := IntWalk.i64_in _ (by omega)
                go_wp2_with fail
                go_region
                all_goals go_wp2_with fail
                all_goals
                  go_roundw
                  case rel =>
                    have e : (if (4096 : Int) < (x : Int) + (tq : Int) then (4096 : Int) else (x : Int) + (tq : Int)) = ((min (partLen ns m (c + 1)) 4096 : Nat) : Int) := by
                      rw [HP.out]
                      have := HXX.out
                      split <;> omega
                    have e2 : min (x + tq) 4096 = min (partLen ns m (c + 1)) 4096 := by
                      rw [HP.out]
                      have := HXX.out
                      omega
                    rw [e]
                    refine ⟨c + 1, hlt, by go_num, ?_⟩
                    have h1 := HS.out.1.1
                    rw [e2] at h1
                    exact ⟨h1, (HS.out.2 _).drew⟩
                  case measure => simp [intOf]; omega
              · obtain rfl : c = (kidsOf ns m).length := by omega
                rw [partLen_all ns m hmn] at hown
                have ct := hown.cellAt m (by omega)
                rw [List.getElem?_set_self (by rw [sizesTo_length]; exact hmn)] at ct
                by_cases hbig4 : treeLen ns m < 4096
                · have hmin : min (treeLen ns m) 4096 = treeLen ns m := by omega
                  rw [hmin] at ct hown
                  rw [← sizesTo_step hmn] at hown
                  have HE := Lib.hid (And.intro hown (And.intro hb3 hmin))
                  clear hown hmin hb3
                  have hge : decide ((4096 : Int) ≤ (treeLen ns m : Int)) = false := by simp; omega
                  go_wp2_with fail
                  go_roundw
                  case rel =>
                    refine ⟨m, _, by omega, by omega, rfl, HE.out.1, HE.out.2.1, fun j h1 h2 => ?_⟩
                    by_cases e : j = m
                    · subst e; exact hbig4
                    · exact HKV.out.2 j (by omega) h2
                  case measure => first | (simp [intOf]; done) | (simp [intOf]; omega)
                · have hmin : min (treeLen ns m) 4096 = 4096 := by omega
                  rw [hmin] at ct
                  have HE := Lib.hid (And.intro hb3 hmin)
                  clear hown hmin hb3
                  go_wp2_with fail
                  go_ret
                  exact .yes (HX.out.2.2.2.trans (HE.out.1.mono HX.out.2.2.2.size))
end Go.Proofs.YtccoeajjomfmnaaDoor
