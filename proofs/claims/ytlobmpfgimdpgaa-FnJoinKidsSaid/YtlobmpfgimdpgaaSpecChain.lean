/-
  The contracts of the reference's Chain and of laws.sameNumbers at equal lists.
  Conditions: at most 2^36 nodes and numbers.
-/
import Derived.Test.YtlobmpfgimdpgaaSpecUnwrap
namespace Go.Proofs.Ytlobmpfgimdpgaa
open Go.RowKit Go.Lib

set_option maxRecDepth 100000 in
set_option maxHeartbeats 2000000 in
theorem same_any (va vb : Value) (l : List Int) (w : World) (ha : Vals w va (l.map (.int .i64))) (hb : Vals w vb (l.map (.int .i64))) :
    Calls Try.prog 29 #[va, vb] w fun e w' => e = .returned (.bool true) ∧ Below w.heap.size w w' := by
  obtain ⟨A, ca, rfl, h1, h2⟩ := ha.form
  obtain ⟨B, cb, rfl, _, _⟩ := hb.form
  simp only [List.length_map, maxLen] at *
  have HA := Lib.hid ha
  have HB := Lib.hid hb
  clear ha hb
  go_enter Try.func29, Try.ntmps29
  go_wp2_with fail
  go_loopw [13] (fun v13 wr => ∃ c : Nat, c ≤ l.length ∧ v13 = .int .i64 c ∧ Below w.heap.size w wr) (fun v13 _ => l.length - (intOf v13).toNat)
  case atStart => exact ⟨0, Nat.zero_le _, rfl, Below.refl _ _⟩
  case round =>
    obtain ⟨c, hc, rfl, hbel⟩ := hrel
    by_cases hlt : c < l.length
    · obtain ⟨b1, o1, rfl, c1⟩ := (HA.out.keep hbel).at (k := c) (x := .int .i64 l[c]) (by simp [hlt])
      obtain ⟨b2, o2, rfl, c2⟩ := (HB.out.keep hbel).at (k := c) (x := .int .i64 l[c]) (by simp [hlt])
      generalize l[c] = x at *
      have hq : (x != x) = false := by simp
      have HBE := Lib.hid hbel
      clear hbel
      go_wp2_with fail
      go_quiet (fail)
      go_wp2_with fail
      go_roundw
      case rel => exact ⟨c + 1, hlt, by go_num, below_drewN' HBE.out _⟩
      case measure => simp [intOf]; omega
    · go_wp2_with fail
      go_ret
      exact ⟨rfl, hbel⟩

/-- The relation of the loop of the reference's Chain. -/
def SChainRel (w : World) (ns : List Nd) (o : Obj) (gk : Nat) (vo va : Value) (wr : World) : Prop :=
  ∃ (done rest : List Nat) (g cp : Nat), vo = .slice (some ⟨g, 0, none⟩) done.length cp ∧ wr.ownsRow w.heap.size 3 1 (.slice (some ⟨g, 0, none⟩) done.length cp) done.length (chainInts done ns) ∧ Below w.heap.size w wr ∧ wr.heap[w.heap.size]? = some o ∧
    done ++ rest = rootChain ns ∧ rest.length ≤ gk ∧ ((rest = [] ∧ va = .int .i64 (-1)) ∨ ∃ j : Nat, isThere ns j = true ∧ rest = chainOf ns j ∧ va = .int .i64 (j : Int))

set_option maxRecDepth 100000 in
set_option maxHeartbeats 4000000 in
theorem chain_f (ns : List Nd) (NA : Option Addr) (nc : Nat) (kv : Nat → Value) (gi gq : Nat) (ks : Nat → Value) (hlen : ns.length ≤ 68719476736) (w : World) (F : FVal w ns NA nc kv gi gq ks) :
    Calls Try.prog 32 #[.agg #[.slice NA ns.length nc, .slice (some ⟨gi, 0, none⟩) ns.length ns.length, .slice (some ⟨gq, 0, none⟩) ns.length ns.length]] w fun e w' => ∃ r, e = .returned r ∧ w'.ownsRow w.heap.size 3 1 r (rootChain ns).length (chainInts (rootChain ns) ns) ∧ Below w.heap.size w w' := by
  have hB0 : ∀ o, Below w.heap.size w ((w.alloc (.cells #[.slice NA ns.length nc, .slice (some ⟨gi, 0, none⟩) ns.length ns.length, .slice (some ⟨gq, 0, none⟩) ns.length ns.length] 31)).alloc o) := fun o => below_after (below_alloc _ _) (below_alloc _ _)
  have hbx0 : ∀ o, ((w.alloc (.cells #[.slice NA ns.length nc, .slice (some ⟨gi, 0, none⟩) ns.length ns.length, .slice (some ⟨gq, 0, none⟩) ns.length ns.length] 31)).alloc o).heap[w.heap.size]? = some (.cells #[.slice NA ns.length nc, .slice (some ⟨gi, 0, none⟩) ns.length ns.length, .slice (some ⟨gq, 0, none⟩) ns.length ns.length] 31 (0, 0)) := fun o => heap_keep (below_alloc _ _) (heap_alloc_new w _)
  have hO0 : ((w.alloc (.cells #[.slice NA ns.length nc, .slice (some ⟨gi, 0, none⟩) ns.length ns.length, .slice (some ⟨gq, 0, none⟩) ns.length ns.length] 31)).alloc (.cells #[] 3)).ownsRow w.heap.size 3 1 (.slice (some ⟨w.heap.size + 1, 0, none⟩) 0 0) 0 [] := by
    have := World.ownsRow_lit (base := w.heap.size) (e := 3) (size := 1) (w.alloc (.cells #[.slice NA ns.length nc, .slice (some ⟨gi, 0, none⟩) ns.length ns.length, .slice (some ⟨gq, 0, none⟩) ns.length ns.length] 31)) #[] 0 (by simp) (by simp [maxLen]) (by simp)
    simpa using this
  have hc := there_f ns NA nc kv gi gq ks 0 _ (F.keep (hB0 (.cells #[] 3)))
  have e0 : thereB ns 0 = isThere ns 0 := thereB_nat ns 0
  rw [e0] at hc
  have HF := Lib.hid F
  have S0 := Lib.hid (And.intro (hB0 (.cells #[] 3)) (And.intro (hbx0 (.cells #[] 3)) hO0))
  clear F hO0 e0 hB0 hbx0
  cases hT : isThere ns 0 with
  | false =>
    rw [hT] at hc
    have HC := Lib.hid hc
    have HR := Lib.hid (show rootChain ns = [] by unfold rootChain; rw [hT]; rfl)
    clear hc hT
    go_enter Try.func32, Try.ntmps32
    go_wp2_with (go_at_call 15; refine HC.out.mono ?_; rintro e w1 ⟨rfl, hb1⟩)
    go_ret
    rw [HR.out]
    exact ⟨_, rfl, own_below S0.out.2.2 hb1, below_after S0.out.1 hb1⟩
  | true =>
    rw [hT] at hc
    have HC := Lib.hid hc
    have HR := Lib.hid (show rootChain ns = chainOf ns 0 by unfold rootChain; rw [hT]; rfl)
    have HT := Lib.hid hT
    clear hc hT
    go_enter Try.func32, Try.ntmps32
    go_wp2_with (go_at_call 15; refine HC.out.mono ?_; rintro e w1 ⟨rfl, hb1⟩)
    have hR0 : SChainRel w ns (.cells #[.slice NA ns.length nc, .slice (some ⟨gi, 0, none⟩) ns.length ns.length, .slice (some ⟨gq, 0, none⟩) ns.length ns.length] 31 (0, 0)) (rootChain ns).length (.slice (some ⟨w.heap.size + 1, 0, none⟩) 0 0) (.int .i64 0) w1 :=
      ⟨[], rootChain ns, w.heap.size + 1, 0, rfl, own_below S0.out.2.2 hb1, below_after S0.out.1 hb1, heap_keep hb1 S0.out.2.1, rfl, Nat.le_refl _, .inr ⟨0, HT.out, HR.out, rfl⟩⟩
    have R0 := Lib.hid hR0
    clear hR0 hb1 S0 HC
    go_loopg [3, 4] (rootChain ns).length (fun gk vo va wr => SChainRel w ns (.cells #[.slice NA ns.length nc, .slice (some ⟨gi, 0, none⟩) ns.length ns.length, .slice (some ⟨gq, 0, none⟩) ns.length ns.length] 31 (0, 0)) gk vo va wr)
    case atStart => exact R0.out
    case round =>
      obtain ⟨done, rest, g, cp, rfl, hown, hbel, hbx, hdr, hgk, hcase⟩ := hrel
      clear R0
      have hcl := rootChain_length ns
      have hs1 := hbel.size
      rcases hcase with ⟨rfl, rfl⟩ | ⟨j, hj, rfl, rfl⟩
      · rw [List.append_nil] at hdr
        subst hdr
        have S := Lib.hid (And.intro hown hbel)
        clear hown hbel hbx
        go_wp2_with fail
        go_ret
        exact ⟨_, rfl, S.out.1, S.out.2⟩
      · have hjl := isThere_lt hj
        have hce := chainOf_eq ns j hjl
        have hdl : done.length + 1 ≤ ns.length := by
          have := congrArg List.length hdr
          rw [List.length_append, hce, List.length_cons] at this
          omega
        obtain ⟨d0, d1, d2⟩ := box3 hbx
        have S := Lib.hid (And.intro hown (And.intro hbel (And.intro hbx (And.intro hdr hce))))
        clear hown hbel hdr hce hj hbx
        go_wp2_with fail
        refine (least_f ns NA nc kv gi gq ks j hjl hlen _ (HF.out.keep S.out.2.1)).mono ?_
        rintro e w3 ⟨rfl, hb3⟩
        have hown3 := own_below S.out.1 hb3
        have hbx3 := heap_keep hb3 S.out.2.2.1
        have hs3 := hb3.size
        have hne := own_ne hown3 hbx3 (by decide)
        have S3 := Lib.hid (And.intro (below_after S.out.2.1 hb3) (And.intro hbx3 hne))
        clear hb3 hbx3 hne
        generalize hLJ : leastOf ns j = lj at *
        have HLJ := Lib.hid hLJ
        clear hLJ
        go_wp2_with (at_builtin; refine wpList_push rfl _ _ _ rfl elemInts rfl hown3 rfl rfl rfl (by simp [Value.oneCell']) (by omega) (by omega) ?_; intro g4 cp4 w4 hown4 hbel4 hgr4 hlt4 hat4; have hbx4 := (hgr4.block w.heap.size (lt_of_heap S3.out.2.1) (fun e => S3.out.2.2 e.symm)).trans S3.out.2.1; obtain ⟨f0, f1, f2⟩ := box3 hbx4; have S4 := Lib.hid (And.intro (S3.out.1.trans hbel4) (And.intro hbx4 hown4)); clear hgr4 hlt4 hat4 hbel4 hbx4 hown4)
        refine (unwrap_f ns NA nc kv gi gq ks j _ (HF.out.keep S4.out.1)).mono ?_
        rintro e w5 ⟨rfl, hb5⟩
        have S5 := Lib.hid (And.intro (below_after S4.out.1 hb5) (And.intro (heap_keep hb5 S4.out.2.1) (own_below S4.out.2.2 hb5)))
        clear hb5
        have hrest : chainOf ns j = j :: (match unwrapOf ns j with | none => [] | some q => chainOf ns q) := S.out.2.2.2.2
        have hlen2 := congrArg List.length hrest
        rw [List.length_cons] at hlen2
        have HRE := Lib.hid hrest
        clear hrest
        generalize hui : unwrapI ns j = ui at *
        have HUI := Lib.hid hui
        clear hui
        go_wp2_with fail
        go_roundg (match unwrapOf ns j with | none => ([] : List Nat) | some q => chainOf ns q).length
        case measure => omega
        case rel =>
          refine ⟨done ++ [j], (match unwrapOf ns j with | none => [] | some q => chainOf ns q), g4, cp4, by simp, ?_, S5.out.1, S5.out.2.1, ?_, Nat.le_refl _, ?_⟩
          · have e : chainInts (done ++ [j]) ns = chainInts done ns ++ [.int .i64 (lj : Nat)] := by unfold chainInts; rw [List.map_append, ← HLJ.out]; rfl
            rw [e, List.length_append, List.length_singleton]
            exact S5.out.2.2
          · rw [List.append_assoc, List.singleton_append, ← HRE.out]
            exact S.out.2.2.2.1
          · rw [← HUI.out]
            unfold unwrapI
            cases hu : unwrapOf ns j with
            | none => exact .inl ⟨rfl, rfl⟩
            | some q => exact .inr ⟨q, (unwrapOf_lt hu).2.2, rfl, rfl⟩
end Go.Proofs.Ytlobmpfgimdpgaa
