/-
  The contracts of laws.specNodes and laws.implNodes: the same nodes, copied.
  Conditions: the copy takes at most 2^47 - 4096 bytes.
-/
import Derived.Test.YtccoeajjomfmnaaDoorProg
import Derived.Test.YtccoeajjomfmnaaDoorMem
namespace Go.Proofs.YtccoeajjomfmnaaDoor
open Go.RowKit
theorem elemSpecNode : Elem Tryd.prog 24 47 4 64 := Elem.mk Tryd.underlying24 (z := .agg #[.string ByteArray.empty, .int .i64 0, .string ByteArray.empty, .slice none 0 0]) (by kernel_rfl) rfl (by decide) (by decide)

set_option maxHeartbeats 400000 in
theorem specNodes_any (v : Value) (ns : List Nd) (kv : Nat → Value) (w : World) (h : Nodes w v ns kv) (hr : ns.length * 64 ≤ 140737488351232) :
    Calls Tryd.prog 14 #[v] w fun e w' => ∃ v', e = .returned v' ∧ Nodes w' v' ns kv ∧ Below w.heap.size w w' := by
  have H := Lib.hid h
  obtain ⟨⟨A, cap, rfl, h1, h2, h3⟩, h4⟩ := h
  clear h1 h2 h3 h4
  go_enter Tryd.func14, Tryd.ntmps14
  go_wp2_with fail
  go_loopw [3, 9] (fun v3 v9 wr => ∃ k g cp : Nat, k ≤ ns.length ∧ v9 = .int .i64 k ∧ v3 = .slice (some ⟨g, 0, none⟩) k cp ∧ wr.ownsRow w.heap.size 47 4 (.slice (some ⟨g, 0, none⟩) k cp) k (nodesCells (ns.take k) kv) ∧ Below w.heap.size w wr) (fun _ v9 _ => ns.length - (intOf v9).toNat)
  case atStart =>
    exact ⟨0, w.heap.size, 0, Nat.zero_le _, rfl, rfl, World.ownsRow_lit w #[] 0 (Nat.le_refl _) (by simp [maxLen]) (by simp), (Below.refl _ _).alloc (Nat.le_refl _) _⟩
  case round =>
    obtain ⟨k, g, cp, hk, rfl, rfl, hown, hbel⟩ := hrel
    by_cases hlt : k < ns.length
    · have hW := H.out.keep hbel
      obtain ⟨⟨A', cap', hA, h1, h2, h3⟩, h4⟩ := hW
      obtain ⟨b, off, rfl, hc⟩ := h3 (by omega)
      obtain ⟨c0, c1, c2, c3⟩ := hc k ns[k] (List.getElem?_eq_getElem hlt)
      obtain ⟨KA, kc, hkv, _, _, _⟩ := h4 k ns[k] (List.getElem?_eq_getElem hlt)
      have hA2 : A = some ⟨b, off, none⟩ := by injection hA
      subst hA2
      have HS := Lib.hid (show nodesCells (ns.take (k + 1)) kv = nodesCells (ns.take k) kv ++ ndCells ns[k] (kv k) by
        rw [List.take_succ_eq_append_getElem hlt, nodesCells_snoc, List.length_take_of_le hk])
      simp only [List.length_map] at hkv
      rw [hkv] at c3 HS
      clear hA hc h3 h4 hkv
      generalize ns[k] = nd at *
      have hb1 := hbel.size
      go_wp2_with (at_builtin; refine wpList_push rfl _ _ _ rfl elemSpecNode rfl (hown.alloc _) rfl (by simp) rfl (by simp [Value.oneCell']) (by omega) (by simp; omega) ?_; intro g' cp' w' hown' hbel' hgr' hlt' hat'; clear hgr' hat')
      go_roundw
      case rel => exact ⟨k + 1, g', cp', hlt, by go_num, rfl, by rw [HS.out]; exact hown', (hbel.alloc hbel.size _).trans hbel'⟩
      case measure => simp [intOf]; omega
    · go_wp2
      go_ret
      obtain rfl : k = ns.length := by omega
      rw [List.take_length] at hown
      exact ⟨_, rfl, Nodes.of_own hown (fun i nd hi => (H.out.2 i nd hi).keep hbel), hbel⟩

theorem elemImplNode : Elem Tryd.prog 27 48 4 64 := Elem.mk Tryd.underlying27 (z := .agg #[.string ByteArray.empty, .int .i64 0, .string ByteArray.empty, .slice none 0 0]) (by kernel_rfl) rfl (by decide) (by decide)

set_option maxHeartbeats 400000 in
theorem implNodes_any (v : Value) (ns : List Nd) (kv : Nat → Value) (w : World) (h : Nodes w v ns kv) (hr : ns.length * 64 ≤ 140737488351232) :
    Calls Tryd.prog 9 #[v] w fun e w' => ∃ v', e = .returned v' ∧ Nodes w' v' ns kv ∧ Below w.heap.size w w' := by
  have H := Lib.hid h
  obtain ⟨⟨A, cap, rfl, h1, h2, h3⟩, h4⟩ := h
  clear h1 h2 h3 h4
  go_enter Tryd.func9, Tryd.ntmps9
  go_wp2_with fail
  go_loopw [3, 9] (fun v3 v9 wr => ∃ k g cp : Nat, k ≤ ns.length ∧ v9 = .int .i64 k ∧ v3 = .slice (some ⟨g, 0, none⟩) k cp ∧ wr.ownsRow w.heap.size 48 4 (.slice (some ⟨g, 0, none⟩) k cp) k (nodesCells (ns.take k) kv) ∧ Below w.heap.size w wr) (fun _ v9 _ => ns.length - (intOf v9).toNat)
  case atStart =>
    exact ⟨0, w.heap.size, 0, Nat.zero_le _, rfl, rfl, World.ownsRow_lit w #[] 0 (Nat.le_refl _) (by simp [maxLen]) (by simp), (Below.refl _ _).alloc (Nat.le_refl _) _⟩
  case round =>
    obtain ⟨k, g, cp, hk, rfl, rfl, hown, hbel⟩ := hrel
    by_cases hlt : k < ns.length
    · have hW := H.out.keep hbel
      obtain ⟨⟨A', cap', hA, h1, h2, h3⟩, h4⟩ := hW
      obtain ⟨b, off, rfl, hc⟩ := h3 (by omega)
      obtain ⟨c0, c1, c2, c3⟩ := hc k ns[k] (List.getElem?_eq_getElem hlt)
      obtain ⟨KA, kc, hkv, _, _, _⟩ := h4 k ns[k] (List.getElem?_eq_getElem hlt)
      have hA2 : A = some ⟨b, off, none⟩ := by injection hA
      subst hA2
      have HS := Lib.hid (show nodesCells (ns.take (k + 1)) kv = nodesCells (ns.take k) kv ++ ndCells ns[k] (kv k) by
        rw [List.take_succ_eq_append_getElem hlt, nodesCells_snoc, List.length_take_of_le hk])
      simp only [List.length_map] at hkv
      rw [hkv] at c3 HS
      clear hA hc h3 h4 hkv
      generalize ns[k] = nd at *
      have hb1 := hbel.size
      go_wp2_with (at_builtin; refine wpList_push rfl _ _ _ rfl elemImplNode rfl (hown.alloc _) rfl (by simp) rfl (by simp [Value.oneCell']) (by omega) (by simp; omega) ?_; intro g' cp' w' hown' hbel' hgr' hlt' hat'; clear hgr' hat')
      go_roundw
      case rel => exact ⟨k + 1, g', cp', hlt, by go_num, rfl, by rw [HS.out]; exact hown', (hbel.alloc hbel.size _).trans hbel'⟩
      case measure => simp [intOf]; omega
    · go_wp2
      go_ret
      obtain rfl : k = ns.length := by omega
      rw [List.take_length] at hown
      exact ⟨_, rfl, Nodes.of_own hown (fun i nd hi => (H.out.2 i nd hi).keep hbel), hbel⟩
end Go.Proofs.YtccoeajjomfmnaaDoor
