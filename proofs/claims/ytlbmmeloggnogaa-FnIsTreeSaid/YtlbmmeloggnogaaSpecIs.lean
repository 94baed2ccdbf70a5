/-
  The contracts of the reference's IsValue and IsNode.
  Conditions: trees of at most 2^30 errors.
-/
import Derived.Test.YtlbmmeloggnogaaSpecTree
namespace Go.Proofs.Ytlbmmeloggnogaa
open Go.RowKit Go.Lib

theorem any_take_succ {α : Type} (p : α → Bool) (l : List α) (c : Nat) (h : c < l.length) : (l.take (c + 1)).any p = ((l.take c).any p || p l[c]) := by
  rw [List.take_succ_eq_append_getElem h, List.any_append]
  simp
theorem any_of_take {α : Type} (p : α → Bool) (l : List α) (c : Nat) (h : c < l.length) (hp : p l[c] = true) : l.any p = true :=
  List.any_eq_true.2 ⟨l[c], List.getElem_mem h, hp⟩

theorem rootTree_le {ns : List Nd} (hS : ∀ j, j < ns.length → treeLen ns j ≤ 1073741824) : (rootTree ns).length ≤ 1073741824 := by
  unfold rootTree
  split
  · rename_i h; exact hS 0 (isThere_lt h)
  · simp

theorem tree_root (ns : List Nd) (NA : Option Addr) (nc : Nat) (kv : Nat → Value) (gi gk : Nat) (ks : Nat → Value) (hS : ∀ j, j < ns.length → treeLen ns j ≤ 1073741824) (w : World) (F : FVal w ns NA nc kv gi gk ks) :
    Calls Try.prog 27 #[.agg #[.slice NA ns.length nc, .slice (some ⟨gi, 0, none⟩) ns.length ns.length, .slice (some ⟨gk, 0, none⟩) ns.length ns.length], .int .i64 0] w (TreeDone w (rootTree ns)) := by
  have := tree_any ns NA nc kv gi gk ks hS ns.length 0 w (.inl (by omega)) F
  rw [treeAt_zero] at this
  exact this

theorem kind2 (s : ByteArray) : s = kValue ∨ s = kAlike ∨ (s ≠ kValue ∧ s ≠ kAlike) := by
  by_cases h1 : s = kValue
  · exact .inl h1
  by_cases h2 : s = kAlike
  · exact .inr (.inl h2)
  exact .inr (.inr ⟨h1, h2⟩)

set_option maxHeartbeats 2000000 in
theorem isValue_f (ns : List Nd) (NA : Option Addr) (nc : Nat) (kv : Nat → Value) (gi gk : Nat) (ks : Nat → Value) (hS : ∀ j, j < ns.length → treeLen ns j ≤ 1073741824) (key : Int) (w : World) (F : FVal w ns NA nc kv gi gk ks) :
    Calls Try.prog 17 #[.agg #[.slice NA ns.length nc, .slice (some ⟨gi, 0, none⟩) ns.length ns.length, .slice (some ⟨gk, 0, none⟩) ns.length ns.length], .int .i64 key] w fun e w' => e = .returned (.bool ((rootTree ns).any (hitVal ns key))) ∧ Below w.heap.size w w' := by
  have HC := Lib.hid (tree_root ns NA nc kv gi gk ks hS (w.alloc (.cells #[.slice NA ns.length nc, .slice (some ⟨gi, 0, none⟩) ns.length ns.length, .slice (some ⟨gk, 0, none⟩) ns.length ns.length] 30)) (F.keep (below_alloc _ _)))
  have HF := Lib.hid F
  have hlen := rootTree_le hS
  clear F hS
  go_enter Try.func17, Try.ntmps17
  go_wp2_with fail
  refine HC.out.mono ?_
  rintro e w1 ⟨g1, cp1, rfl, hown1, hb1⟩
  have HR := Lib.hid (And.intro (Vals.of_own hown1) (And.intro hb1 (heap_keep hb1 (heap_alloc_new w (.cells #[.slice NA ns.length nc, .slice (some ⟨gi, 0, none⟩) ns.length ns.length, .slice (some ⟨gk, 0, none⟩) ns.length ns.length] 30)))))
  have hcp : (rootTree ns).length ≤ cp1 ∧ cp1 ≤ 9223372036854775807 := by
    have := (Vals.of_own hown1).len
    simp only [maxLen] at this
    exact this.2
  clear hown1 hb1
  go_wp2_with fail
  go_loopw [11] (fun v11 wr => ∃ c : Nat, c ≤ (rootTree ns).length ∧ v11 = .int .i64 c ∧ ((rootTree ns).take c).any (hitVal ns key) = false ∧ Below w1.heap.size w1 wr) (fun v11 _ => (rootTree ns).length - (intOf v11).toNat)
  case atStart => exact ⟨0, Nat.zero_le _, rfl, by simp, Below.refl _ _⟩
  case round =>
    obtain ⟨c, hc, rfl, hno, hbel⟩ := hrel
    have hs1 := hbel.size
    have HNO := Lib.hid hno
    clear hno
    by_cases hlt : c < (rootTree ns).length
    · obtain ⟨b, off, hbo, c0⟩ := (HR.out.1.keep hbel).at (asInts_get hlt)
      injection hbo with hbo
      injection hbo with e1 e2
      subst e1 e2
      rw [Nat.zero_add] at c0
      have hmem := mem_rootTree (List.getElem_mem hlt)
      have HS := Lib.hid (And.intro (any_take_succ (hitVal ns key) (rootTree ns) c hlt) (any_of_take (hitVal ns key) (rootTree ns) c hlt))
      generalize (rootTree ns)[c] = q at *
      have hq : ns[q]? = some ns[q] := List.getElem?_eq_getElem hmem.1
      have hbw := below_box HR.out.2.1
      obtain ⟨b, off, QA, qc, rfl, hkv, n0, n1, n2, n3, _, _⟩ := ((HF.out.keep hbw).keep hbel).nodes.at hq
      have HH := Lib.hid (show hitVal ns key q = ((decide (ns[q].kind = kValue) || decide (ns[q].kind = kAlike)) && decide (ns[q].key = key)) by unfold hitVal; rw [hq])
      obtain ⟨d0, d1, d2⟩ := box3 (heap_keep hbel HR.out.2.2)
      clear hkv hq
      obtain ⟨hmem, _⟩ := hmem
      generalize ns[q] = nd at *
      obtain ⟨kd, ky, tx, kids⟩ := nd
      dsimp only at n0 n1 n2 n3 HH
      have hgo : ∀ bb, hitVal ns key q = bb → Hid (bb = false → ((rootTree ns).take (c + 1)).any (hitVal ns key) = false) ∧ Hid (bb = true → (rootTree ns).any (hitVal ns key) = true) := fun bb hb =>
        ⟨Lib.hid (fun h => by rw [HS.out.1, HNO.out, hb, h]; rfl), Lib.hid (fun h => HS.out.2 (by rw [hb, h]))⟩
      have hfin : ∀ v, Below w.heap.size w ((wr.alloc v)) := fun v => (below_after hbw hbel).alloc (below_after hbw hbel).size _
      have hstep : ∀ v, Below w1.heap.size w1 (wr.alloc v) := fun v => hbel.alloc hbel.size _
      rcases kind2 kd with rfl | rfl | ⟨h1, h2⟩
      · by_cases hk : ky = key
        · subst hk
          obtain ⟨_, H2⟩ := hgo true (by rw [HH.out]; simp)
          simp only [kValue] at *
          clear hgo HH
          go_wp2_with fail
          go_ret
          exact ⟨by rw [H2.out (by trivial)]; rfl, hfin _⟩
        · obtain ⟨H1, _⟩ := hgo false (by rw [HH.out]; simp [hk])
          have hk2 : (ky == key) = false := by simpa using hk
          simp only [kValue] at *
          clear hgo HH hk
          go_wp2_with fail
          go_roundw
          case rel => exact ⟨c + 1, hlt, by go_num, H1.out (by trivial), hstep _⟩
          case measure => simp [intOf]; omega
      · by_cases hk : ky = key
        · subst hk
          obtain ⟨_, H2⟩ := hgo true (by rw [HH.out]; simp)
          simp only [kAlike] at *
          clear hgo HH
          go_wp2_with fail
          go_ret
          exact ⟨by rw [H2.out (by trivial)]; rfl, hfin _⟩
        · obtain ⟨H1, _⟩ := hgo false (by rw [HH.out]; simp [hk])
          have hk2 : (ky == key) = false := by simpa using hk
          simp only [kAlike] at *
          clear hgo HH hk
          go_wp2_with fail
          go_roundw
          case rel => exact ⟨c + 1, hlt, by go_num, H1.out (by trivial), hstep _⟩
          case measure => simp [intOf]; omega
      · obtain ⟨H1, _⟩ := hgo false (by rw [HH.out]; simp [h1, h2])
        have t1 := toList_ne h1
        have t2 := toList_ne h2
        clear hgo HH h1 h2
        go_wp2_with fail
        go_roundw
        case rel => exact ⟨c + 1, hlt, by go_num, H1.out (by trivial), hstep _⟩
        case measure => simp [intOf]; omega
    · obtain rfl : c = (rootTree ns).length := by omega
      have hno := HNO.out
      rw [List.take_length] at hno
      go_wp2_with fail
      go_ret
      exact ⟨by rw [hno]; rfl, below_after (below_box HR.out.2.1) hbel⟩
end Go.Proofs.Ytlbmmeloggnogaa
