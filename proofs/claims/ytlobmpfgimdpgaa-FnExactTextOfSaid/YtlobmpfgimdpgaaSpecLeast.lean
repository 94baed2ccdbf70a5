/-
  The contracts of the reference's Least, Unwrap and Chain.
  Conditions: none.
-/
import Derived.Test.YtlobmpfgimdpgaaFVal
import Derived.Test.YtlobmpfgimdpgaaIndex
import Derived.Deep.QuietTactic
import Derived.BigQuiet
import Derived.Deep.LoopGhost
import Derived.Outline
namespace Go.Proofs.Ytlobmpfgimdpgaa
open Go.RowKit Go.Lib

set_option maxRecDepth 100000 in
set_option maxHeartbeats 4000000 in
theorem least_f (ns : List Nd) (NA : Option Addr) (nc : Nat) (kv : Nat → Value) (gi gk : Nat) (ks : Nat → Value) (j : Nat) (hj : j < ns.length) (hlen : ns.length ≤ 68719476736) (w : World) (F : FVal w ns NA nc kv gi gk ks) :
    Calls Try.prog 25 #[.agg #[.slice NA ns.length nc, .slice (some ⟨gi, 0, none⟩) ns.length ns.length, .slice (some ⟨gk, 0, none⟩) ns.length ns.length], .int .i64 (j : Int)] w fun e w' => e = .returned (.int .i64 (leastOf ns j : Nat)) ∧ Below w.heap.size w w' := by
  have hn : ns[j]? = some ns[j] := List.getElem?_eq_getElem hj
  have hncm : nc ≤ 9223372036854775807 := by
    obtain ⟨_, c, e, _, h⟩ := F.nodes.form
    injection e with _ _ e
    subst e
    simpa [maxLen] using h
  have HF := Lib.hid F
  have hB0 := below_alloc w (.cells #[.slice NA ns.length nc, .slice (some ⟨gi, 0, none⟩) ns.length ns.length, .slice (some ⟨gk, 0, none⟩) ns.length ns.length] 31)
  have hbx0 := heap_alloc_new w (.cells #[.slice NA ns.length nc, .slice (some ⟨gi, 0, none⟩) ns.length ns.length, .slice (some ⟨gk, 0, none⟩) ns.length ns.length] 31)
  by_cases hk : ns[j].kind = kValue
  · obtain ⟨m, x, hfv, hmj, hx, hxk, hxkey, hfirst⟩ := firstVal_spec hn hk
    have HLE := Lib.hid (show leastOf ns j = m by unfold leastOf; rw [hn]; simp only [if_pos hk]; rw [hfv]; rfl)
    have HFI := Lib.hid (And.intro hx (And.intro hxk (And.intro hxkey hfirst)))
    have HJ := Lib.hid (And.intro hn hk)
    have S0 := Lib.hid (And.intro hB0 hbx0)
    clear F hx hxk hxkey hfirst hfv hn hk hB0 hbx0
    go_enter Try.func25, Try.ntmps25
    go_wp2_with fail
    go_loopw [10] (fun v10 wr => ∃ c : Nat, c ≤ m ∧ v10 = .int .i64 c ∧ Below w.heap.size w wr ∧ wr.heap[w.heap.size]? = some (.cells #[.slice NA ns.length nc, .slice (some ⟨gi, 0, none⟩) ns.length ns.length, .slice (some ⟨gk, 0, none⟩) ns.length ns.length] 31 (0, 0))) (fun v10 _ => ns.length - (intOf v10).toNat)
    case atStart => exact ⟨0, Nat.zero_le _, rfl, S0.out.1, S0.out.2⟩
    case round =>
      obtain ⟨c, hc, rfl, hbel, hbx⟩ := hrel
      clear S0
      have hcl : c < ns.length := by omega
      have hgc : ns[c]? = some ns[c] := List.getElem?_eq_getElem hcl
      have hs1 := hbel.size
      obtain ⟨b, off, QA, qc, rfl, hkv, n0, n1, n2, n3, _, _⟩ := (HF.out.keep hbel).nodes.at hgc
      have hstB : ∀ v, Below w.heap.size w (wr.alloc v) := fun v => hbel.alloc hs1 _
      have hstX : ∀ v, (wr.alloc v).heap[w.heap.size]? = some (.cells #[.slice (some ⟨b, off, none⟩) ns.length nc, .slice (some ⟨gi, 0, none⟩) ns.length ns.length, .slice (some ⟨gk, 0, none⟩) ns.length ns.length] 31 (0, 0)) := fun v => heap_keep (below_alloc wr v) hbx
      have d0 : ∀ v, (wr.alloc v).cell? ⟨w.heap.size, 0, none⟩ = some (.slice (some ⟨b, off, none⟩) ns.length nc) := fun v => (box3 (hstX v)).1
      have d1 := (box3 hbx).1
      have hjc : ∀ v, (wr.alloc v).cell? ⟨b, off + j * 4, none⟩ = some (.string kValue) ∧ (wr.alloc v).cell? ⟨b, off + j * 4 + 1, none⟩ = some (.int .i64 ns[j].key) := fun v => by
        obtain ⟨b', off', _, _, e, _, m0, m1, _⟩ := (HF.out.keep (hstB v)).nodes.at HJ.out.1
        injection e with e
        injection e with e1 e2
        subst e1 e2
        rw [HJ.out.2] at m0
        exact ⟨m0, m1⟩
      have j0 : ∀ v, (wr.alloc v).cell? ⟨b, off + j * 4, none⟩ = some (.string { data := #[118, 97, 108, 117, 101] }) := fun v => (hjc v).1
      have j1 : ∀ v, (wr.alloc v).cell? ⟨b, off + j * 4 + 1, none⟩ = some (.int .i64 ns[j].key) := fun v => (hjc v).2
      have HST := Lib.hid (And.intro hstB hstX)
      clear hkv hjc hstB hstX hbx
      by_cases hcm : c = m
      · subst hcm
        have e1 : ns[c].kind = kValue := by have := HFI.out.1; rw [hgc] at this; injection this with this; rw [this]; exact HFI.out.2.1
        have e2 : ns[c].key = ns[j].key := by have := HFI.out.1; rw [hgc] at this; injection this with this; rw [this]; exact HFI.out.2.2.1
        rw [e1] at n0
        rw [e2] at n1
        simp only [kValue] at n0
        clear e1 e2 hgc
        generalize ns[j].key = key at *
        generalize ns[c] = nd at *
        obtain ⟨kd, ky, tx, kids⟩ := nd
        dsimp only at n2 n3
        go_wp2_with fail
        go_quiet (fail)
        go_wp2_with fail
        go_ret
        exact ⟨by rw [HLE.out]; rfl, below_drewN' (HST.out.1 _) _⟩
      · have hne : c < m := by omega
        have hno := HFI.out.2.2.2 c ns[c] hne hgc
        by_cases hkc : ns[c].kind = kValue
        · have hke : ¬ ns[c].key = ns[j].key := fun e => hno ⟨hkc, e⟩
          have hke2 : (ns[c].key == ns[j].key) = false := by simpa using hke
          rw [hkc] at n0
          simp only [kValue] at n0
          clear hno hkc hke hcm hgc
          generalize ns[j].key = key at *
          generalize ns[c] = nd at *
          obtain ⟨kd, ky, tx, kids⟩ := nd
          dsimp only at n1 n2 n3 hke2
          go_wp2_with fail
          go_quiet (fail)
          go_wp2_with fail
          go_roundw
          case rel => exact ⟨c + 1, hne, by go_num, below_drewN' (HST.out.1 _) _, HST.out.2 _⟩
          case measure => simp [intOf]; omega
        · have hkc2 := toList_ne hkc
          clear hno hkc hcm hgc
          generalize ns[j].key = key at *
          generalize ns[c] = nd at *
          obtain ⟨kd, ky, tx, kids⟩ := nd
          dsimp only at n0 n1 n2 n3 hkc2
          go_wp2_with fail
          go_quiet (fail)
          go_wp2_with fail
          go_roundw
          case rel => exact ⟨c + 1, hne, by go_num, below_drewN' (HST.out.1 _) _, HST.out.2 _⟩
          case measure => simp [intOf]; omega
  · have HLE := Lib.hid (show leastOf ns j = j by unfold leastOf; rw [hn]; simp only [if_neg hk])
    have HJ := Lib.hid (And.intro hn hk)
    have tj := toList_ne hk
    have S0 := Lib.hid (And.intro hB0 hbx0)
    clear F hn hk hB0 hbx0
    go_enter Try.func25, Try.ntmps25
    go_wp2_with fail
    go_loopw [10] (fun v10 wr => ∃ c : Nat, c ≤ ns.length ∧ v10 = .int .i64 c ∧ Below w.heap.size w wr ∧ wr.heap[w.heap.size]? = some (.cells #[.slice NA ns.length nc, .slice (some ⟨gi, 0, none⟩) ns.length ns.length, .slice (some ⟨gk, 0, none⟩) ns.length ns.length] 31 (0, 0))) (fun v10 _ => ns.length - (intOf v10).toNat)
    case atStart => exact ⟨0, Nat.zero_le _, rfl, S0.out.1, S0.out.2⟩
    case round =>
      obtain ⟨c, hc, rfl, hbel, hbx⟩ := hrel
      clear S0
      have hs1 := hbel.size
      by_cases hcl : c < ns.length
      · have hgc : ns[c]? = some ns[c] := List.getElem?_eq_getElem hcl
        obtain ⟨b, off, QA, qc, rfl, hkv, n0, n1, n2, n3, _, _⟩ := (HF.out.keep hbel).nodes.at hgc
        have hstB : ∀ v, Below w.heap.size w (wr.alloc v) := fun v => hbel.alloc hs1 _
        have hstX : ∀ v, (wr.alloc v).heap[w.heap.size]? = some (.cells #[.slice (some ⟨b, off, none⟩) ns.length nc, .slice (some ⟨gi, 0, none⟩) ns.length ns.length, .slice (some ⟨gk, 0, none⟩) ns.length ns.length] 31 (0, 0)) := fun v => heap_keep (below_alloc wr v) hbx
        have d0 : ∀ v, (wr.alloc v).cell? ⟨w.heap.size, 0, none⟩ = some (.slice (some ⟨b, off, none⟩) ns.length nc) := fun v => (box3 (hstX v)).1
        have d1 := (box3 hbx).1
        have j0 : ∀ v, (wr.alloc v).cell? ⟨b, off + j * 4, none⟩ = some (.string ns[j].kind) := fun v => by
          obtain ⟨b', off', _, _, e, _, m0, m1, _⟩ := (HF.out.keep (hstB v)).nodes.at HJ.out.1
          injection e with e
          injection e with e1 e2
          subst e1 e2
          exact m0
        have HST := Lib.hid (And.intro hstB hstX)
        clear hkv hstB hstX hbx hgc
        generalize ns[j].kind = kj at *
        generalize ns[c] = nd at *
        obtain ⟨kd, ky, tx, kids⟩ := nd
        dsimp only at n0 n1 n2 n3
        go_wp2_with fail
        go_quiet (fail)
        go_wp2_with fail
        go_roundw
        case rel => exact ⟨c + 1, hcl, by go_num, below_drewN' (HST.out.1 _) _, HST.out.2 _⟩
        case measure => simp [intOf]; omega
      · obtain rfl : c = ns.length := by omega
        have HBX := Lib.hid hbel
        clear hbx hbel
        go_wp2_with fail
        go_ret
        exact ⟨by rw [HLE.out]; rfl, HBX.out⟩
end Go.Proofs.Ytlobmpfgimdpgaa
