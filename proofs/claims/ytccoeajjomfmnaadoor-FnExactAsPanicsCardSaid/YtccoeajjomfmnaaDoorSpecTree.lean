/-
  The contract of the reference's Tree.
  Conditions: trees of at most 2^30 errors.
-/
import Derived.Test.YtccoeajjomfmnaaDoorFVal
namespace Go.Proofs.YtccoeajjomfmnaaDoor
open Go.RowKit Go.Lib

/-- What Tree leaves. -/
def TreeDone (w : World) (l : List Nat) (e : Ending) (w' : World) : Prop :=
  ∃ g cp, e = .returned (.slice (some ⟨g, 0, none⟩) l.length cp) ∧ w'.ownsRow w.heap.size 3 1 (.slice (some ⟨g, 0, none⟩) l.length cp) l.length (asInts l) ∧ Below w.heap.size w w'

/-- The tree while the kids from c on are still to come. -/
def treeTo (ns : List Nd) (k c : Nat) : List Nat := k :: ((kidsOf ns k).take c).flatMap (treeOf ns)
theorem treeTo_zero (ns : List Nd) (k : Nat) : treeTo ns k 0 = [k] := by simp [treeTo]
theorem treeTo_succ (ns : List Nd) (k c : Nat) (h : c < (kidsOf ns k).length) : treeTo ns k (c + 1) = treeTo ns k c ++ treeOf ns (kidsOf ns k)[c] := by
  unfold treeTo
  rw [List.take_succ_eq_append_getElem h, List.flatMap_append, List.flatMap_singleton, List.cons_append]
theorem treeTo_all (ns : List Nd) (k : Nat) (h : k < ns.length) : treeTo ns k (kidsOf ns k).length = treeOf ns k := by
  unfold treeTo
  rw [List.take_length, treeOf_eq ns k h]
theorem treeTo_le (ns : List Nd) (k c : Nat) (h : k < ns.length) : (treeTo ns k c).length ≤ treeLen ns k := by
  unfold treeLen
  rw [treeOf_eq ns k h, treeTo, List.length_cons, List.length_cons]
  have e : kidsOf ns k = (kidsOf ns k).take c ++ (kidsOf ns k).drop c := (List.take_append_drop c _).symm
  conv => rhs; rw [e, List.flatMap_append, List.length_append]
  omega

set_option maxHeartbeats 2000000 in
theorem tree_any (ns : List Nd) (NA : Option Addr) (nc : Nat) (kv : Nat → Value) (gi gk : Nat) (ks : Nat → Value) (hS : ∀ j, j < ns.length → treeLen ns j ≤ 1073741824) :
    ∀ (m : Nat) (i : Int) (w : World), (ns.length : Int) - i ≤ (m : Int) ∨ thereB ns i = false → FVal w ns NA nc kv gi gk ks →
    Calls Tryd.prog 30 #[.agg #[.slice NA ns.length nc, .slice (some ⟨gi, 0, none⟩) ns.length ns.length, .slice (some ⟨gk, 0, none⟩) ns.length ns.length], .int .i64 i] w (TreeDone w (treeAt ns i)) := by
  intro m
  induction m with
  | zero =>
    intro i w hm F
    have hT : thereB ns i = false := by
      rcases hm with hm | hm
      · cases hb : thereB ns i with
        | false => rfl
        | true => obtain ⟨k, rfl, hk, _⟩ := thereB_true hb; omega
      · exact hm
    have hc := there_f ns NA nc kv gi gk ks i (w.alloc (.cells #[.slice NA ns.length nc, .slice (some ⟨gi, 0, none⟩) ns.length ns.length, .slice (some ⟨gk, 0, none⟩) ns.length ns.length] 37)) (F.keep (below_alloc _ _))
    rw [hT] at hc
    have HC := Lib.hid hc
    have HA := Lib.hid (treeAt_not hT)
    clear hc hm F hT
    go_enter Tryd.func30, Tryd.ntmps30
    go_wp2_with (go_at_call 18; refine HC.out.mono ?_; rintro e w1 ⟨rfl, hb1⟩)
    go_ret
    rw [HA.out]
    exact ⟨_, _, rfl, World.ownsRow_lit w1 #[] 0 (below_box hb1).size (by simp [maxLen]) (by simp), (below_box hb1).alloc (below_box hb1).size _⟩
  | succ m ih =>
    intro i w hm F
    cases hT : thereB ns i with
    | false =>
      exact (ih i w (.inr hT) F)
    | true =>
      obtain ⟨k, rfl, hk, hkt⟩ := thereB_true hT
      have hm' : (ns.length : Int) - k ≤ (m + 1 : Nat) := by
        rcases hm with hm | hm
        · exact hm
        · rw [hT] at hm; cases hm
      rw [treeAt_nat hkt]
      have hc := there_f ns NA nc kv gi gk ks (k : Int) (w.alloc (.cells #[.slice NA ns.length nc, .slice (some ⟨gi, 0, none⟩) ns.length ns.length, .slice (some ⟨gk, 0, none⟩) ns.length ns.length] 37)) (F.keep (below_alloc _ _))
      rw [hT] at hc
      have HC := Lib.hid hc
      have HF := Lib.hid F
      have IH := Lib.hid ih
      have HS := Lib.hid hS
      clear hc hm F hT hS ih
      go_enter Tryd.func30, Tryd.ntmps30
      go_wp2_with fail
      refine HC.out.mono ?_
      rintro e w1 ⟨rfl, hb1⟩
      have hblk := heap_keep hb1 (heap_alloc_new w (.cells #[.slice NA ns.length nc, .slice (some ⟨gi, 0, none⟩) ns.length ns.length, .slice (some ⟨gk, 0, none⟩) ns.length ns.length] 37))
      have hbw := below_box hb1
      have hF1 := HF.out.keep hbw
      obtain ⟨KA, kc, hks, hkl, hkm⟩ := (hF1.kids k hk).form
      rw [asInts_length] at hkl
      have d2A : ∀ o, (w1.alloc o).cell? ⟨w.heap.size, 2, none⟩ = some (.slice (some ⟨gk, 0, none⟩) ns.length ns.length) := fun o => (box3 (heap_keep (below_alloc w1 o) hblk)).2.2
      have dKA : ∀ o, (w1.alloc o).cell? ⟨gk, 0 + k, none⟩ = some (.slice KA (kidsOf ns k).length kc) := fun o => by
        obtain ⟨b, off, e, h⟩ := rows_at (hF1.keep (below_alloc w1 o)).rows hk
        injection e with e
        injection e with e1 e2
        subst e1 e2
        rw [hks, asInts_length] at h
        exact h
      have HB := Lib.hid (And.intro hblk (And.intro hbw hks))
      clear hblk hb1 hks hF1 hbw
      simp only [maxLen, Nat.zero_add] at hkm dKA
      go_wp2_with fail
      clear d2A dKA
      go_loopw [5, 21] (fun v5 v21 wr => ∃ c g cp : Nat, c ≤ (kidsOf ns k).length ∧ v21 = .int .i64 c ∧ v5 = .slice (some ⟨g, 0, none⟩) (treeTo ns k c).length cp ∧ wr.ownsRow w.heap.size 3 1 (.slice (some ⟨g, 0, none⟩) (treeTo ns k c).length cp) (treeTo ns k c).length (asInts (treeTo ns k c)) ∧ Below w.heap.size w wr ∧ wr.heap[w.heap.size]? = some (.cells #[.slice NA ns.length nc, .slice (some ⟨gi, 0, none⟩) ns.length ns.length, .slice (some ⟨gk, 0, none⟩) ns.length ns.length] 37 (0, 0))) (fun _ v21 _ => (kidsOf ns k).length - (intOf v21).toNat)
      case atStart =>
        refine ⟨0, w1.heap.size, 1, Nat.zero_le _, rfl, by rw [treeTo_zero]; rfl, ?_, HB.out.2.1.alloc HB.out.2.1.size _, heap_keep (below_alloc _ _) HB.out.1⟩
        rw [treeTo_zero]
        exact World.ownsRow_lit w1 #[.int .i64 (k : Int)] 1 HB.out.2.1.size (by simp [maxLen]) (by simp)
      case round =>
        obtain ⟨c, g, cp, hc, rfl, rfl, hown, hbel, hblk⟩ := hrel
        have hs1 := hbel.size
        by_cases hlt : c < (kidsOf ns k).length
        · have hF1 := HF.out.keep hbel
          have hkv := hF1.kids k hk
          rw [HB.out.2.2, asInts_length] at hkv
          obtain ⟨b, off, rfl, c0⟩ := hkv.at (asInts_get hlt)
          have hmem := kidsOf_mem (List.getElem_mem hlt)
          have HT := Lib.hid (treeTo_succ ns k c hlt)
          have hle := treeTo_le ns k (c + 1) hk
          rw [HT.out, List.length_append] at hle
          have hSk := HS.out k hk
          obtain ⟨d0, d1, d2⟩ := box3 hblk
          have HK := Lib.hid (And.intro hblk (And.intro hF1 hown))
          generalize (kidsOf ns k)[c] = q at *
          have HTA := Lib.hid (treeAt_nat hmem.2.2)
          clear hblk hkv hF1 hown
          go_wp2_with fail
          refine (IH.out (q : Int) _ (.inl (by omega)) HK.out.2.1).mono ?_
          rintro e w2 ⟨g2, cp2, rfl, hown2, hb2⟩
          rw [HTA.out] at hown2 ⊢
          have ho := own_below HK.out.2.2 hb2
          have hn2 := heap_keep hb2 HK.out.1
          have hnews := World.ownsRow.cells hown2 (g := g2) rfl
          have hs2 := hb2.size
          have hpos : 0 < (treeOf ns q).length := by rw [treeOf_eq ns q hmem.2.1]; simp
          have HN := Lib.hid (And.intro hn2 (And.intro hb2 (own_ne ho hn2 (by decide))))
          clear hn2 hb2
          go_wp2_with (at_builtin; refine wpList_spread rfl _ _ _ rfl elemInts rfl ho rfl (by rw [asInts_length, Nat.mul_one]) (fun j u hu => by have := hnews j u hu; rw [add_none] at this; exact this) (asInts_one _) hpos (by omega) (by omega) ?_; intro g' cp' w' hown' hbel' hgr' hlt' hat')
          go_roundw
          case rel =>
            refine ⟨c + 1, g', cp', hlt, by go_num, by rw [HT.out, List.length_append], by rw [HT.out, List.length_append, asInts_append]; exact hown', (below_after hbel HN.out.2.1).trans hbel', (hgr'.block _ (lt_of_heap HN.out.1) (fun e => HN.out.2.2 e.symm)).trans HN.out.1⟩
          case measure => simp [intOf]; omega
        · obtain rfl : c = (kidsOf ns k).length := by omega
          rw [treeTo_all ns k hk] at hown ⊢
          clear hblk
          go_wp2_with fail
          go_ret
          exact ⟨_, _, rfl, hown, hbel⟩
end Go.Proofs.YtccoeajjomfmnaaDoor
