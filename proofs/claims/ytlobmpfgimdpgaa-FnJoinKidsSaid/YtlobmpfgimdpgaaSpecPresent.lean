/-
  The contract of the reference's Present.
  Conditions: at most 2^36 nodes and indices.
-/
import Derived.Test.YtlobmpfgimdpgaaSpecLeast
import Derived.Test.YtlobmpfgimdpgaaJoinKids
namespace Go.Proofs.Ytlobmpfgimdpgaa
open Go.RowKit Go.Lib

theorem presentL_append (ns : List Nd) (a b : List Int) : presentL ns (a ++ b) = presentL ns a ++ presentL ns b := List.filterMap_append

set_option maxRecDepth 100000 in
set_option maxHeartbeats 4000000 in
theorem present_f (ns : List Nd) (NA : Option Addr) (nc : Nat) (kv : Nat → Value) (gi gk : Nat) (ks : Nat → Value) (iv : Value) (l : List Int) (hlen : ns.length ≤ 68719476736) (hll : l.length ≤ 68719476736) (w : World) (F : FVal w ns NA nc kv gi gk ks) (hi : Ints w iv l) :
    Calls Try.prog 28 #[.agg #[.slice NA ns.length nc, .slice (some ⟨gi, 0, none⟩) ns.length ns.length, .slice (some ⟨gk, 0, none⟩) ns.length ns.length], iv] w fun e w' => ∃ g cp, e = .returned (.slice (some ⟨g, 0, none⟩) (presentL ns l).length cp) ∧ w'.ownsRow w.heap.size 3 1 (.slice (some ⟨g, 0, none⟩) (presentL ns l).length cp) (presentL ns l).length (chainInts (presentL ns l) ns) ∧ Below w.heap.size w w' := by
  obtain ⟨IA, ic, hiv, _, him⟩ := hi.form
  rw [List.length_map] at hiv
  subst hiv
  simp only [maxLen] at him
  have hB0 : Below w.heap.size w ((w.alloc (.cells #[.slice NA ns.length nc, .slice (some ⟨gi, 0, none⟩) ns.length ns.length, .slice (some ⟨gk, 0, none⟩) ns.length ns.length] 31)).alloc (.cells #[] 3)) := below_after (below_alloc _ _) (below_alloc _ _)
  have hbx0 := heap_keep (below_alloc (w.alloc (.cells #[.slice NA ns.length nc, .slice (some ⟨gi, 0, none⟩) ns.length ns.length, .slice (some ⟨gk, 0, none⟩) ns.length ns.length] 31)) (.cells #[] 3)) (heap_alloc_new w _)
  have hO0 : ((w.alloc (.cells #[.slice NA ns.length nc, .slice (some ⟨gi, 0, none⟩) ns.length ns.length, .slice (some ⟨gk, 0, none⟩) ns.length ns.length] 31)).alloc (.cells #[] 3)).ownsRow w.heap.size 3 1 (.slice (some ⟨w.heap.size + 1, 0, none⟩) 0 0) 0 [] := by
    have := World.ownsRow_lit (base := w.heap.size) (e := 3) (size := 1) (w.alloc (.cells #[.slice NA ns.length nc, .slice (some ⟨gi, 0, none⟩) ns.length ns.length, .slice (some ⟨gk, 0, none⟩) ns.length ns.length] 31)) #[] 0 (by simp) (by simp [maxLen]) (by simp)
    simpa using this
  have HF := Lib.hid (And.intro F hi)
  have S0 := Lib.hid (And.intro hB0 (And.intro hbx0 hO0))
  clear F hi hB0 hbx0 hO0
  go_enter Try.func28, Try.ntmps28
  go_wp2_with fail
  go_loopw [5, 11] (fun v5 v11 wr => ∃ c g cp : Nat, c ≤ l.length ∧ v11 = .int .i64 c ∧ v5 = .slice (some ⟨g, 0, none⟩) (presentL ns (l.take c)).length cp ∧ wr.ownsRow w.heap.size 3 1 (.slice (some ⟨g, 0, none⟩) (presentL ns (l.take c)).length cp) (presentL ns (l.take c)).length (chainInts (presentL ns (l.take c)) ns) ∧ Below w.heap.size w wr ∧ wr.heap[w.heap.size]? = some (.cells #[.slice NA ns.length nc, .slice (some ⟨gi, 0, none⟩) ns.length ns.length, .slice (some ⟨gk, 0, none⟩) ns.length ns.length] 31 (0, 0))) (fun _ v11 _ => l.length - (intOf v11).toNat)
  case atStart => exact ⟨0, w.heap.size + 1, 0, Nat.zero_le _, rfl, rfl, S0.out.2.2, S0.out.1, S0.out.2.1⟩
  case round =>
    obtain ⟨c, g, cp, hc, rfl, rfl, hown, hbel, hbx⟩ := hrel
    clear S0
    have hs1 := hbel.size
    by_cases hlt : c < l.length
    · obtain ⟨b, off, rfl, c0⟩ := Vals.at (k := c) (x := .int .i64 l[c]) (Vals.keep HF.out.2 hbel) (by simp [hlt])
      have HS := Lib.hid (show presentL ns (l.take (c + 1)) = presentL ns (l.take c) ++ (if thereB ns l[c] = true then [l[c].toNat] else []) by
        rw [List.take_succ_eq_append_getElem hlt, presentL_append, presentL_cons]; simp [presentL, thereB])
      have hle := presentL_le ns (l.take c)
      have hle2 : (l.take c).length ≤ c := List.length_take_le _ _
      obtain ⟨d0, d1, d2⟩ := box3 hbx
      have hth := there_f ns NA nc kv gi gk ks l[c] wr (HF.out.1.keep hbel)
      generalize l[c] = q at *
      generalize presentL ns (l.take c) = L at *
      cases hT : thereB ns q with
      | false =>
        rw [hT] at hth
        have HS2 := Lib.hid (show presentL ns (l.take (c + 1)) = L by rw [HS.out, hT]; simp)
        have HTH := Lib.hid hth
        have S := Lib.hid (And.intro hown (And.intro hbel hbx))
        clear hth hT hown hbel hbx
        go_wp2_with (go_at_call 15; refine HTH.out.mono ?_; rintro e w2 ⟨rfl, hb2⟩)
        go_roundw
        case rel => exact ⟨c + 1, g, cp, hlt, by go_num, by rw [HS2.out], by rw [HS2.out]; exact own_below S.out.1 hb2, below_after S.out.2.1 hb2, heap_keep hb2 S.out.2.2⟩
        case measure => simp [intOf]; omega
      | true =>
        rw [hT] at hth
        obtain ⟨k, rfl, hkl, _⟩ := thereB_true hT
        have HS2 := Lib.hid (show presentL ns (l.take (c + 1)) = L ++ [k] by rw [HS.out, hT]; simp)
        have HTH := Lib.hid hth
        have S := Lib.hid (And.intro hown (And.intro hbel hbx))
        clear hth hT hown hbel hbx
        go_wp2_with fail
        refine HTH.out.mono ?_
        rintro e w2 ⟨rfl, hb2⟩
        have S2 := Lib.hid (And.intro (own_below S.out.1 hb2) (And.intro (below_after S.out.2.1 hb2) (heap_keep hb2 S.out.2.2)))
        obtain ⟨f0, f1, f2⟩ := box3 S2.out.2.2
        clear hb2
        go_wp2_with fail
        refine (least_f ns NA nc kv gi gk ks k hkl hlen _ (HF.out.1.keep S2.out.2.1)).mono ?_
        rintro e w3 ⟨rfl, hb3⟩
        have hown3 := own_below S2.out.1 hb3
        have hbx3 := heap_keep hb3 S2.out.2.2
        have hB3 := below_after S2.out.2.1 hb3
        have hs3 := hB3.size
        have S3 := Lib.hid (And.intro hB3 (And.intro hbx3 (own_ne hown3 hbx3 (by decide))))
        clear hb3 hbx3 hB3
        generalize hLJ : leastOf ns k = lj at *
        have HLJ := Lib.hid hLJ
        clear hLJ
        go_wp2_with (at_builtin; refine wpList_push rfl _ _ _ rfl elemInts rfl hown3 rfl rfl rfl (by simp [Value.oneCell']) (by omega) (by omega) ?_; intro g4 cp4 w4 hown4 hbel4 hgr4 hlt4 hat4)
        go_roundw
        case rel =>
          have e : chainInts (L ++ [k]) ns = chainInts L ns ++ [.int .i64 (lj : Nat)] := by unfold chainInts; rw [List.map_append, ← HLJ.out]; rfl
          exact ⟨c + 1, g4, cp4, hlt, by go_num, by rw [HS2.out]; simp, by rw [HS2.out, e, List.length_append, List.length_singleton]; exact hown4, S3.out.1.trans hbel4, (hgr4.block w.heap.size (lt_of_heap S3.out.2.1) (fun e => S3.out.2.2 e.symm)).trans S3.out.2.1⟩
        case measure => simp [intOf]; omega
    · obtain rfl : c = l.length := by omega
      rw [List.take_length] at hown ⊢
      have S := Lib.hid (And.intro hown hbel)
      clear hown hbel hbx
      go_wp2_with fail
      go_ret
      exact ⟨g, cp, rfl, S.out.1, S.out.2⟩
end Go.Proofs.Ytlobmpfgimdpgaa
