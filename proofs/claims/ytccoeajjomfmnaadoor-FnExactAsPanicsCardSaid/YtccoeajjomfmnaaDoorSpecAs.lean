/-
  The contracts of the reference's AsValue and AsKind.
  Conditions: trees of at most 2^30 errors.
-/
import Derived.Test.YtccoeajjomfmnaaDoorSpecTree
import Derived.Test.YtccoeajjomfmnaaDoorSpecLarge
import Derived.Test.YtccoeajjomfmnaaDoorPlain2
namespace Go.Proofs.YtccoeajjomfmnaaDoor
open Go.RowKit Go.Lib

/-- The key of the first value of the tree of the first node. -/
def asKey (ns : List Nd) : Option Int := (rootTree ns).findSome? (valKey ns)
/-- The first node of a kind of the tree of the first node. -/
def asIx (ns : List Nd) (s : ByteArray) : Option Nat := (rootTree ns).find? (isKind ns s)

theorem fs_take_none {α β : Type} (f : α → Option β) (l : List α) (c : Nat) (h : c < l.length) (h0 : (l.take c).findSome? f = none) (h1 : f l[c] = none) : (l.take (c + 1)).findSome? f = none := by
  rw [List.take_succ_eq_append_getElem h, List.findSome?_append, h0]
  simp [h1]
theorem fs_take_some {α β : Type} (f : α → Option β) (l : List α) (c : Nat) (h : c < l.length) (y : β) (h0 : (l.take c).findSome? f = none) (h1 : f l[c] = some y) : l.findSome? f = some y := by
  rw [← List.take_append_drop c l, List.findSome?_append, h0, List.drop_eq_getElem_cons h, List.findSome?_cons, h1]
  rfl
theorem fi_take_none {α : Type} (f : α → Bool) (l : List α) (c : Nat) (h : c < l.length) (h0 : (l.take c).find? f = none) (h1 : f l[c] = false) : (l.take (c + 1)).find? f = none := by
  rw [List.take_succ_eq_append_getElem h, List.find?_append, h0]
  simp [h1]
theorem fi_take_some {α : Type} (f : α → Bool) (l : List α) (c : Nat) (h : c < l.length) (h0 : (l.take c).find? f = none) (h1 : f l[c] = true) : l.find? f = some l[c] := by
  have e : l = l.take c ++ (l[c] :: l.drop (c + 1)) := by rw [← List.drop_eq_getElem_cons h, List.take_append_drop]
  generalize l[c] = x at *
  rw [e, List.find?_append, h0, List.find?_cons, h1]
  rfl
theorem rootTree_le {ns : List Nd} (hS : ∀ j, j < ns.length → treeLen ns j ≤ 1073741824) : (rootTree ns).length ≤ 1073741824 := by
  unfold rootTree
  split
  · rename_i h; exact hS 0 (isThere_lt h)
  · simp

theorem tree_root (ns : List Nd) (NA : Option Addr) (nc : Nat) (kv : Nat → Value) (gi gk : Nat) (ks : Nat → Value) (hS : ∀ j, j < ns.length → treeLen ns j ≤ 1073741824) (w : World) (F : FVal w ns NA nc kv gi gk ks) :
    Calls Tryd.prog 30 #[.agg #[.slice NA ns.length nc, .slice (some ⟨gi, 0, none⟩) ns.length ns.length, .slice (some ⟨gk, 0, none⟩) ns.length ns.length], .int .i64 0] w (TreeDone w (rootTree ns)) := by
  have := tree_any ns NA nc kv gi gk ks hS ns.length 0 w (.inl (by omega)) F
  rw [treeAt_zero] at this
  exact this

theorem kindVA (s : ByteArray) : s = kValue ∨ s = kActs ∨ (s ≠ kValue ∧ s ≠ kActs) := by
  by_cases h1 : s = kValue
  · exact .inl h1
  by_cases h2 : s = kActs
  · exact .inr (.inl h2)
  exact .inr (.inr ⟨h1, h2⟩)

set_option maxHeartbeats 2000000 in
theorem asValue_f (ns : List Nd) (NA : Option Addr) (nc : Nat) (kv : Nat → Value) (gi gk : Nat) (ks : Nat → Value) (hS : ∀ j, j < ns.length → treeLen ns j ≤ 1073741824) (w : World) (F : FVal w ns NA nc kv gi gk ks) :
    Calls Tryd.prog 19 #[.agg #[.slice NA ns.length nc, .slice (some ⟨gi, 0, none⟩) ns.length ns.length, .slice (some ⟨gk, 0, none⟩) ns.length ns.length]] w fun e w' => e = .returned (.tuple #[.int .i64 ((asKey ns).getD 0), .bool (asKey ns).isSome]) ∧ Below w.heap.size w w' := by
  have HC := Lib.hid (tree_root ns NA nc kv gi gk ks hS (w.alloc (.cells #[.slice NA ns.length nc, .slice (some ⟨gi, 0, none⟩) ns.length ns.length, .slice (some ⟨gk, 0, none⟩) ns.length ns.length] 37)) (F.keep (below_alloc _ _)))
  have HF := Lib.hid F
  have hlen := rootTree_le hS
  clear F hS
  go_enter Tryd.func19, Tryd.ntmps19
  go_wp2_with fail
  refine HC.out.mono ?_
  rintro e w1 ⟨g1, cp1, rfl, hown1, hb1⟩
  have HR := Lib.hid (And.intro (Vals.of_own hown1) (And.intro hb1 (heap_keep hb1 (heap_alloc_new w (.cells #[.slice NA ns.length nc, .slice (some ⟨gi, 0, none⟩) ns.length ns.length, .slice (some ⟨gk, 0, none⟩) ns.length ns.length] 37)))))
  have hcp : (rootTree ns).length ≤ cp1 ∧ cp1 ≤ 9223372036854775807 := by
    have := (Vals.of_own hown1).len
    simp only [maxLen] at this
    exact this.2
  clear hown1 hb1
  go_wp2_with fail
  go_loopw [10] (fun v10 wr => ∃ c : Nat, c ≤ (rootTree ns).length ∧ v10 = .int .i64 c ∧ ((rootTree ns).take c).findSome? (valKey ns) = none ∧ Below w1.heap.size w1 wr) (fun v10 _ => (rootTree ns).length - (intOf v10).toNat)
  case atStart => exact ⟨0, Nat.zero_le _, rfl, by simp, Below.refl _ _⟩
  case round =>
    obtain ⟨c, hc, rfl, hno, hbel⟩ := hrel
    have hs1 := hbel.size
    have HNO := Lib.hid hno
    clear hno
    by_cases hlt : c < (rootTree ns).length
    · obtain ⟨b, off, hbo, c0⟩ := (HR.out.1.keep hbel).at (asInts_get hlt)
      injection hbo with hbo
      injection hbo with e1 e2
      subst e1 e2
      rw [Nat.zero_add] at c0
      have hmem := mem_rootTree (List.getElem_mem hlt)
      have HS := Lib.hid (And.intro (fs_take_none (valKey ns) (rootTree ns) c hlt HNO.out) (fun y => fs_take_some (valKey ns) (rootTree ns) c hlt y HNO.out))
      generalize (rootTree ns)[c] = q at *
      have hq : ns[q]? = some ns[q] := List.getElem?_eq_getElem hmem.1
      have hbw := below_box HR.out.2.1
      obtain ⟨b, off, QA, qc, rfl, hkv, n0, n1, n2, n3, _, _⟩ := ((HF.out.keep hbw).keep hbel).nodes.at hq
      have HH := Lib.hid (show valKey ns q = if ns[q].kind = kValue ∨ ns[q].kind = kActs then some ns[q].key else none by unfold valKey; rw [hq])
      obtain ⟨d0, d1, d2⟩ := box3 (heap_keep hbel HR.out.2.2)
      clear hkv hq
      obtain ⟨hmem, _⟩ := hmem
      generalize ns[q] = nd at *
      obtain ⟨kd, ky, tx, kids⟩ := nd
      dsimp only at n0 n1 n2 n3 HH
      have hfin : ∀ v, Below w.heap.size w ((wr.alloc v)) := fun v => (below_after hbw hbel).alloc (below_after hbw hbel).size _
      have hstep : ∀ v, Below w1.heap.size w1 (wr.alloc v) := fun v => hbel.alloc hbel.size _
      rcases kindVA kd with rfl | rfl | ⟨h1, h2⟩
      · have H2 := Lib.hid (HS.out.2 ky (by rw [HH.out]; simp))
        simp only [kValue] at *
        clear HH
        go_wp2_with fail
        go_ret2
        exact ⟨by unfold asKey; rw [H2.out]; rfl, hfin _⟩
      · have H2 := Lib.hid (HS.out.2 ky (by rw [HH.out]; simp))
        simp only [kActs] at *
        clear HH
        go_wp2_with fail
        go_ret2
        exact ⟨by unfold asKey; rw [H2.out]; rfl, hfin _⟩
      · have H1 := Lib.hid (HS.out.1 (by rw [HH.out]; simp [h1, h2]))
        have t1 := toList_ne h1
        have t2 := toList_ne h2
        clear HH h1 h2
        go_wp2_with fail
        go_roundw
        case rel => exact ⟨c + 1, hlt, by go_num, H1.out, hstep _⟩
        case measure => simp [intOf]; omega
    · obtain rfl : c = (rootTree ns).length := by omega
      have hno := HNO.out
      rw [List.take_length] at hno
      have HN := Lib.hid hno
      clear hno
      go_wp2_with fail
      go_ret2
      exact ⟨by unfold asKey; rw [HN.out]; rfl, below_after (below_box HR.out.2.1) hbel⟩

set_option maxHeartbeats 2000000 in
theorem asKind_f (ns : List Nd) (NA : Option Addr) (nc : Nat) (kv : Nat → Value) (gi gk : Nat) (ks : Nat → Value) (hS : ∀ j, j < ns.length → treeLen ns j ≤ 1073741824) (s : ByteArray) (w : World) (F : FVal w ns NA nc kv gi gk ks) :
    Calls Tryd.prog 20 #[.agg #[.slice NA ns.length nc, .slice (some ⟨gi, 0, none⟩) ns.length ns.length, .slice (some ⟨gk, 0, none⟩) ns.length ns.length], .string s] w fun e w' => e = .returned (.tuple #[.int .i64 (((asIx ns s).map fun (j : Nat) => (j : Int)).getD (-1)), .bool (asIx ns s).isSome]) ∧ Below w.heap.size w w' := by
  have HC := Lib.hid (tree_root ns NA nc kv gi gk ks hS (w.alloc (.cells #[.slice NA ns.length nc, .slice (some ⟨gi, 0, none⟩) ns.length ns.length, .slice (some ⟨gk, 0, none⟩) ns.length ns.length] 37)) (F.keep (below_alloc _ _)))
  have HF := Lib.hid F
  have hlen := rootTree_le hS
  clear F hS
  go_enter Tryd.func20, Tryd.ntmps20
  go_wp2_with fail
  refine HC.out.mono ?_
  rintro e w1 ⟨g1, cp1, rfl, hown1, hb1⟩
  have HR := Lib.hid (And.intro (Vals.of_own hown1) (And.intro hb1 (heap_keep hb1 (heap_alloc_new w (.cells #[.slice NA ns.length nc, .slice (some ⟨gi, 0, none⟩) ns.length ns.length, .slice (some ⟨gk, 0, none⟩) ns.length ns.length] 37)))))
  have hcp : (rootTree ns).length ≤ cp1 ∧ cp1 ≤ 9223372036854775807 := by
    have := (Vals.of_own hown1).len
    simp only [maxLen] at this
    exact this.2
  clear hown1 hb1
  go_wp2_with fail
  go_loopw [11] (fun v11 wr => ∃ c : Nat, c ≤ (rootTree ns).length ∧ v11 = .int .i64 c ∧ ((rootTree ns).take c).find? (isKind ns s) = none ∧ Below w1.heap.size w1 wr) (fun v11 _ => (rootTree ns).length - (intOf v11).toNat)
  case atStart => exact ⟨0, Nat.zero_le _, rfl, by simp, Below.refl _ _⟩
  case round =>
    obtain ⟨c, hc, rfl, hno, hbel⟩ := hrel
    have hs1 := hbel.size
    have HNO := Lib.hid hno
    clear hno
    by_cases hlt : c < (rootTree ns).length
    · obtain ⟨b, off, hbo, c0⟩ := (HR.out.1.keep hbel).at (asInts_get hlt)
      injection hbo with hbo
      injection hbo with e1 e2
      subst e1 e2
      rw [Nat.zero_add] at c0
      have hmem := mem_rootTree (List.getElem_mem hlt)
      have HS := Lib.hid (And.intro (fi_take_none (isKind ns s) (rootTree ns) c hlt HNO.out) (fi_take_some (isKind ns s) (rootTree ns) c hlt HNO.out))
      generalize (rootTree ns)[c] = q at *
      have hq : ns[q]? = some ns[q] := List.getElem?_eq_getElem hmem.1
      have hbw := below_box HR.out.2.1
      obtain ⟨b, off, QA, qc, rfl, hkv, n0, n1, n2, n3, _, _⟩ := ((HF.out.keep hbw).keep hbel).nodes.at hq
      have HH := Lib.hid (show isKind ns s q = decide (ns[q].kind = s) by unfold isKind; rw [hq])
      obtain ⟨d0, d1, d2⟩ := box3 (heap_keep hbel HR.out.2.2)
      clear hkv hq
      obtain ⟨hmem, _⟩ := hmem
      generalize ns[q] = nd at *
      obtain ⟨kd, ky, tx, kids⟩ := nd
      dsimp only at n0 n1 n2 n3 HH
      have hfin : Below w.heap.size w wr := below_after hbw hbel
      by_cases h1 : kd = s
      · subst h1
        have H2 := Lib.hid (HS.out.2 (by rw [HH.out]; simp))
        clear HH
        go_wp2_with fail
        go_ret2
        exact ⟨by unfold asIx; rw [H2.out]; rfl, hfin⟩
      · have H1 := Lib.hid (HS.out.1 (by rw [HH.out]; simp [h1]))
        have t1 : (kd.toList == s.toList) = false := by
          have := toList_ne (l := s.data.toList) h1
          rwa [← ByteArray.toList_eq] at this
        clear HH h1
        go_wp2_with fail
        go_roundw
        case rel => exact ⟨c + 1, hlt, by go_num, H1.out, hbel⟩
        case measure => simp [intOf]; omega
    · obtain rfl : c = (rootTree ns).length := by omega
      have hno := HNO.out
      rw [List.take_length] at hno
      have HN := Lib.hid hno
      clear hno
      go_wp2_with fail
      go_ret2
      exact ⟨by unfold asIx; rw [HN.out]; rfl, below_after (below_box HR.out.2.1) hbel⟩

theorem forestKids (a b c : Value) (w : World) : (Instr.field 37 (.agg #[a, b, c]) 2).run Tryd.prog w = .ok c w := by kernel_rfl

set_option maxRecDepth 100000 in
set_option maxHeartbeats 2000000 in
theorem joins_any (v : Value) (ns : List Nd) (kv : Nat → Value) (w : World) (h : Nodes w v ns kv) (hn : ns.length ≤ 200) (hk : ∀ nd ∈ ns, nd.kids.length ≤ 200) :
    Calls Tryd.prog 16 #[v] w fun e w' => (∃ b, e = .returned (.bool b)) ∧ Below w.heap.size w w' := by
  obtain ⟨NA, nc, rfl, hnc1, hnc2⟩ := h.form
  simp only [maxLen] at hnc2
  have H := Lib.hid h
  have HK := Lib.hid hk
  clear h hk
  go_enter Tryd.func16, Tryd.ntmps16
  go_wp2_with fail
  go_loopw [7] (fun v7 wr => ∃ c : Nat, c ≤ ns.length ∧ v7 = .int .i64 c ∧ Below w.heap.size w wr) (fun v7 _ => ns.length - (intOf v7).toNat)
  case atStart => exact ⟨0, Nat.zero_le _, rfl, Below.refl _ _⟩
  case round =>
    obtain ⟨c, hc, rfl, hbel⟩ := hrel
    have hs1 := hbel.size
    by_cases hlt : c < ns.length
    · have hq : ns[c]? = some ns[c] := List.getElem?_eq_getElem hlt
      obtain ⟨b, off, QA, qc, rfl, hkv, n0, n1, n2, n3, hq1, hq2⟩ := (H.out.keep hbel).at hq
      clear hkv hq
      generalize ns[c] = nd at *
      obtain ⟨kd, ky, tx, kids⟩ := nd
      dsimp only at n0 n1 n2 n3 hq1
      simp only [maxLen] at hq2
      have hstep : ∀ v, Below w.heap.size w (wr.alloc v) := fun v => hbel.alloc hbel.size _
      have HM := Lib.hid (fun W (hW : Below w.heap.size w W) => specMade_any _ ns kv W (H.out.keep hW) (by omega) (fun nd hnd => by have := HK.out nd hnd; omega))
      by_cases h1 : kd = kJoin
      · subst h1
        simp only [kJoin] at *
        have hfk := forestKids
        go_wp2_with (go_at_call 17; refine (HM.out _ (hstep _)).mono ?_; intro e w1 hmade; obtain ⟨gi, gk, ks, rfl, hF, hb1⟩ := SpecMade.fval hmade (H.out.keep (hstep _)); clear hmade; obtain ⟨KA, kc, hks, hkl, hkm⟩ := (hF.kids c hlt).form; obtain ⟨b1, off1, e1, ck⟩ := rows_at hF.rows hlt; injection e1 with e1; injection e1 with e1 e2; subst e1 e2; rw [hks, asInts_length, Nat.zero_add] at ck; rw [asInts_length] at hkl; simp only [maxLen] at hkm; have HB1 := Lib.hid (below_after (hstep _) hb1); clear hF hb1 hks)
        · go_ret
          exact ⟨⟨_, rfl⟩, HB1.out⟩
        · go_roundw
          case rel => exact ⟨c + 1, hlt, by go_num, HB1.out⟩
          case measure => simp [intOf]; omega
      · have t1 := toList_ne h1
        clear h1
        go_wp2_with fail
        go_roundw
        case rel => exact ⟨c + 1, hlt, by go_num, hstep _⟩
        case measure => simp [intOf]; omega
    · obtain rfl : c = ns.length := by omega
      go_wp2_with fail
      go_ret
      exact ⟨⟨_, rfl⟩, hbel⟩
end Go.Proofs.YtccoeajjomfmnaaDoor
