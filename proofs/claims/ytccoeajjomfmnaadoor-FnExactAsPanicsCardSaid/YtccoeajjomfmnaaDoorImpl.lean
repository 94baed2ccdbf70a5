/-
  The contracts of the small helpers of the thin package: the methods kids and at of a tree, first and present.
  Conditions: at most 2^36 elements.
-/
import Derived.Test.YtccoeajjomfmnaaDoorJoin
namespace Go.Proofs.YtccoeajjomfmnaaDoor
open Go.RowKit Go.Lib

/-- The error with an index that is greater than one; nil for another. -/
def pickKid (xs : List Value) (i : Int) (k : Int) : Value := if i < k ∧ k < (xs.length : Int) then xs.getD k.toNat .nilIface else .nilIface

theorem isErr_getD {xs : List Value} (h : ∀ x ∈ xs, IsErr x) (k : Nat) : IsErr (xs.getD k .nilIface) := by
  rw [List.getD_eq_getElem?_getD]
  cases hk : xs[k]? with
  | none => exact .inl rfl
  | some x => exact h x (List.mem_of_getElem? hk)
theorem isErr_pick {xs : List Value} (h : ∀ x ∈ xs, IsErr x) (i k : Int) : IsErr (pickKid xs i k) := by
  unfold pickKid
  split
  · exact isErr_getD h _
  · exact .inl rfl

set_option maxHeartbeats 1000000 in
theorem kids_any (tv kv : Value) (xs : List Value) (i : Int) (ks : List Int) (w : World) (ht : Vals w tv xs) (hk : Ints w kv ks) (hx : ∀ x ∈ xs, IsErr x) (hi : 0 ≤ i) (hn : ks.length ≤ 68719476736) :
    Calls Tryd.prog 35 #[tv, .int .i64 i, kv] w fun e w' => ∃ v, e = .returned v ∧ w'.ownsRow w.heap.size 54 1 v ks.length (ks.map (pickKid xs i)) ∧ Below w.heap.size w w' := by
  obtain ⟨A, cap, rfl, _, hm1⟩ := ht.form
  obtain ⟨A2, cap2, rfl, _, hm2⟩ := hk.form
  simp only [List.length_map, maxLen] at *
  have HT := Lib.hid ht
  have HK := Lib.hid hk
  have HX := Lib.hid hx
  clear ht hk hx
  go_enter Tryd.func35, Tryd.ntmps35
  go_wp2_with fail
  go_loopw [7, 14] (fun v7 v14 wr => ∃ k g cp : Nat, k ≤ ks.length ∧ v14 = .int .i64 k ∧ v7 = .slice (some ⟨g, 0, none⟩) k cp ∧ wr.ownsRow w.heap.size 54 1 (.slice (some ⟨g, 0, none⟩) k cp) k ((ks.take k).map (pickKid xs i)) ∧ Below w.heap.size w wr) (fun _ v14 _ => ks.length - (intOf v14).toNat)
  case atStart =>
    exact ⟨0, w.heap.size, 0, Nat.zero_le _, rfl, rfl, World.ownsRow_lit w #[] 0 (Nat.le_refl _) (by simp [maxLen]) (by simp), (Below.refl _ _).alloc (Nat.le_refl _) _⟩
  case round =>
    obtain ⟨k, g, cp, hk, rfl, rfl, hown, hbel⟩ := hrel
    have hs1 := hbel.size
    by_cases hlt : k < ks.length
    · obtain ⟨b, off, rfl, c0⟩ := Vals.at (k := k) (x := .int .i64 ks[k]) (Vals.keep HK.out hbel) (by simp [hlt])
      have HS := Lib.hid (show (ks.take (k + 1)).map (pickKid xs i) = (ks.take k).map (pickKid xs i) ++ [pickKid xs i ks[k]] by rw [List.take_succ_eq_append_getElem hlt, List.map_append]; rfl)
      generalize ks[k] = q at *
      by_cases hq1 : i < q
      · by_cases hq2 : q < (xs.length : Int)
        · have hq3 : q.toNat < xs.length := by omega
          obtain ⟨b2, off2, rfl, c1⟩ := Vals.at (k := q.toNat) (x := xs[q.toNat]) (Vals.keep HT.out hbel) (List.getElem?_eq_getElem hq3)
          have HP := Lib.hid (show pickKid xs i q = xs[q.toNat] by unfold pickKid; rw [if_pos ⟨hq1, hq2⟩]; simp [hq3])
          have hX := HX.out xs[q.toNat] (List.getElem_mem hq3)
          have hq4 : (0 : Int) ≤ q := by omega
          have hd1 : decide (i < q) = true := by simpa using hq1
          generalize xs[q.toNat] = x at *
          rcases hX with rfl | ⟨t, u, rfl⟩
          all_goals
            go_wp2_with (at_builtin; refine wpList_push rfl (.tmp 31) (.tmp 33) _ rfl elemErr rfl hown rfl rfl rfl (by simp [Value.oneCell']) (by omega) (by omega) ?_; intro g' cp' w' hown' hbel' hgr' hlt' hat')
            go_roundw
            case rel => exact ⟨k + 1, g', cp', hlt, by go_num, rfl, by rw [HS.out, HP.out]; exact hown', hbel.trans hbel'⟩
            case measure => simp [intOf]; omega
        · have HP := Lib.hid (show pickKid xs i q = .nilIface by unfold pickKid; rw [if_neg (fun h => hq2 h.2)])
          have hd1 : decide (i < q) = true := by simpa using hq1
          go_wp2_with (at_builtin; refine wpList_push rfl (.tmp 31) (.tmp 33) _ rfl elemErr rfl hown rfl rfl rfl (by simp [Value.oneCell']) (by omega) (by omega) ?_; intro g' cp' w' hown' hbel' hgr' hlt' hat')
          go_roundw
          case rel => exact ⟨k + 1, g', cp', hlt, by go_num, rfl, by rw [HS.out, HP.out]; exact hown', hbel.trans hbel'⟩
          case measure => simp [intOf]; omega
      · have HP := Lib.hid (show pickKid xs i q = .nilIface by unfold pickKid; rw [if_neg (fun h => hq1 h.1)])
        have hd1 : decide (i < q) = false := by simpa using hq1
        go_wp2_with (at_builtin; refine wpList_push rfl (.tmp 31) (.tmp 33) _ rfl elemErr rfl hown rfl rfl rfl (by simp [Value.oneCell']) (by omega) (by omega) ?_; intro g' cp' w' hown' hbel' hgr' hlt' hat')
        go_roundw
        case rel => exact ⟨k + 1, g', cp', hlt, by go_num, rfl, by rw [HS.out, HP.out]; exact hown', hbel.trans hbel'⟩
        case measure => simp [intOf]; omega
    · obtain rfl : k = ks.length := by omega
      rw [List.take_length] at hown
      go_wp2_with fail
      go_ret
      exact ⟨_, rfl, hown, hbel⟩

theorem first_any (lv : Value) (xs : List Value) (w : World) (h : Vals w lv xs) :
    Calls Tryd.prog 37 #[lv] w fun e w' => e = .returned (xs.headD .nilIface) ∧ w = w' := by
  obtain ⟨A, cap, rfl, _, hm1⟩ := h.form
  cases xs with
  | nil =>
    go_enter Tryd.func37, Tryd.ntmps37
    go_wp2_with fail
    refine wp_loop_rounds 1 ?_
    rw [rounds_succ]
    go_wp2
    go_ret
    exact ⟨rfl, rfl⟩
  | cons x r =>
    obtain ⟨b, off, rfl, c0⟩ := Vals.at (k := 0) (x := x) h rfl
    simp only [Nat.add_zero] at c0
    have hp : (0 : Int) < ((r.length + 1 : Nat) : Int) := by omega
    clear h
    simp only [List.length_cons] at *
    go_enter Tryd.func37, Tryd.ntmps37
    go_wp2_with fail
    refine wp_loop_rounds 1 ?_
    rw [rounds_succ]
    go_wp2
    go_ret
    exact ⟨rfl, rfl⟩

set_option maxHeartbeats 1000000 in
theorem present_any (lv : Value) (xs : List Value) (w : World) (h : Vals w lv xs) (hx : ∀ x ∈ xs, IsErr x) (hn : xs.length ≤ 68719476736) :
    Calls Tryd.prog 38 #[lv] w fun e w' => ∃ v, e = .returned v ∧ w'.ownsRow w.heap.size 54 1 v (there xs).length (there xs) ∧ Below w.heap.size w w' := by
  obtain ⟨A, cap, rfl, _, hm1⟩ := h.form
  have H := Lib.hid h
  have HX := Lib.hid hx
  clear h hx
  go_enter Tryd.func38, Tryd.ntmps38
  go_wp2_with fail
  go_loopw [3, 9] (fun v3 v9 wr => ∃ k g cp : Nat, k ≤ xs.length ∧ v9 = .int .i64 k ∧ v3 = .slice (some ⟨g, 0, none⟩) (there (xs.take k)).length cp ∧ wr.ownsRow w.heap.size 54 1 (.slice (some ⟨g, 0, none⟩) (there (xs.take k)).length cp) (there (xs.take k)).length (there (xs.take k)) ∧ Below w.heap.size w wr) (fun _ v9 _ => xs.length - (intOf v9).toNat)
  case atStart =>
    exact ⟨0, w.heap.size, 0, Nat.zero_le _, rfl, rfl, World.ownsRow_lit w #[] 0 (Nat.le_refl _) (by simp [maxLen]) (by simp), (Below.refl _ _).alloc (Nat.le_refl _) _⟩
  case round =>
    obtain ⟨k, g, cp, hk, rfl, rfl, hown, hbel⟩ := hrel
    have hs1 := hbel.size
    by_cases hlt : k < xs.length
    · obtain ⟨b, off, rfl, c0⟩ := Vals.at (k := k) (x := xs[k]) (Vals.keep H.out hbel) (List.getElem?_eq_getElem hlt)
      have HS := Lib.hid (there_take_succ xs k hlt)
      have hle := there_length_le xs k
      have hX := HX.out xs[k] (List.getElem_mem hlt)
      generalize xs[k] = x at *
      generalize there (xs.take k) = ys at *
      rcases hX with rfl | ⟨t, u, rfl⟩
      · have HS2 := Lib.hid (show there (xs.take (k + 1)) = ys by rw [HS.out]; simp [there, nilB])
        go_wp2_with fail
        go_roundw
        case rel => exact ⟨k + 1, g, cp, hlt, by go_num, by rw [HS2.out], by rw [HS2.out]; exact hown, hbel⟩
        case measure => simp [intOf]; omega
      · have HS2 := Lib.hid (show there (xs.take (k + 1)) = ys ++ [.iface t u] by rw [HS.out]; simp [there, nilB])
        go_wp2_with (at_builtin; refine wpList_push rfl _ _ _ rfl elemErr rfl hown rfl rfl rfl (by simp [Value.oneCell']) (by omega) (by omega) ?_; intro g' cp' w' hown' hbel' hgr' hlt' hat')
        go_roundw
        case rel => exact ⟨k + 1, g', cp', hlt, by go_num, by rw [HS2.out]; simp, by rw [HS2.out]; simpa using hown', hbel.trans hbel'⟩
        case measure => simp [intOf]; omega
    · obtain rfl : k = xs.length := by omega
      rw [List.take_length] at hown ⊢
      go_wp2_with fail
      go_ret
      exact ⟨_, rfl, hown, hbel⟩

/-- The error with an index, or nil. -/
def atIx (xs : List Value) (i : Int) : Value := if 0 ≤ i then xs.getD i.toNat .nilIface else .nilIface

theorem at_any (tv : Value) (xs : List Value) (i : Int) (w : World) (h : Vals w tv xs) :
    Calls Tryd.prog 25 #[tv, .int .i64 i] w fun e w' => e = .returned (atIx xs i) ∧ w = w' := by
  obtain ⟨A, cap, rfl, _, hm1⟩ := h.form
  by_cases h1 : i < 0
  · have HP := Lib.hid (show atIx xs i = .nilIface by unfold atIx; rw [if_neg (by omega)])
    have hd : decide (i < 0) = true := by simpa using h1
    clear h
    go_enter Tryd.func25, Tryd.ntmps25
    go_wp2
    go_ret
    exact ⟨by rw [HP.out]; rfl, rfl⟩
  · have hd : decide (i < 0) = false := by simpa using h1
    by_cases h2 : (xs.length : Int) ≤ i
    · have HP := Lib.hid (show atIx xs i = .nilIface by
        unfold atIx; rw [if_pos (by omega), List.getD_eq_getElem?_getD, List.getElem?_eq_none (by omega)]; rfl)
      clear h
      go_enter Tryd.func25, Tryd.ntmps25
      go_wp2
      go_ret
      exact ⟨by rw [HP.out]; rfl, rfl⟩
    · have h3 : i.toNat < xs.length := by omega
      obtain ⟨b, off, rfl, c0⟩ := Vals.at (k := i.toNat) (x := xs[i.toNat]) h (List.getElem?_eq_getElem h3)
      have HP := Lib.hid (show atIx xs i = xs[i.toNat] by unfold atIx; rw [if_pos (by omega)]; simp [h3])
      have h4 : (0 : Int) ≤ i := by omega
      generalize xs[i.toNat] = x at *
      clear h
      go_enter Tryd.func25, Tryd.ntmps25
      go_wp2
      go_ret
      exact ⟨by rw [HP.out]; rfl, rfl⟩
end Go.Proofs.YtccoeajjomfmnaaDoor
