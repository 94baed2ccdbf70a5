/-
  The contracts of spec.Kept (the texts in whose place there is no nil) and spec.Lines (texts with a newline between them).
  Conditions: at most 2^36 texts; for Lines a whole text of at most 2^40 bytes.
-/
import Derived.Test.YtgkhnccedejjnaaTexts
namespace Go.Proofs.Ytgkhnccedejjnaa
open Go.RowKit Go.Lib

theorem elemStr : Elem Try.prog 25 9 1 16 := Elem.mk Try.underlying25 (z := .string ByteArray.empty) (by kernel_rfl) rfl (by decide) (by decide)

set_option maxHeartbeats 1000000 in
theorem kept_any (tv nv : Value) (ts : List ByteArray) (bs : List Bool) (w : World) (ht : Strs w tv ts) (hn : Bools w nv bs) (hr : ts.length ≤ 68719476736) :
    Calls Try.prog 11 #[tv, nv] w fun e w' => ∃ v, e = .returned v ∧ w'.ownsRow w.heap.size 9 1 v (kept ts bs).length ((kept ts bs).map .string) ∧ Below w.heap.size w w' := by
  have HT := Lib.hid ht
  have HN := Lib.hid hn
  obtain ⟨A, cap, rfl, h1, h2, h3⟩ := ht
  obtain ⟨A2, cap2, rfl, k1, k2, k3⟩ := hn
  clear h1 h2 h3 k1 k3
  unfold maxLen at k2
  simp only [List.length_map] at *
  go_enter Try.func11, Try.ntmps11
  go_wp2_with fail
  go_loopw [5, 11] (fun v5 v11 wr => ∃ k g cp : Nat, k ≤ ts.length ∧ v11 = .int .i64 k ∧ v5 = .slice (some ⟨g, 0, none⟩) (kept (ts.take k) bs).length cp ∧ wr.ownsRow w.heap.size 9 1 (.slice (some ⟨g, 0, none⟩) (kept (ts.take k) bs).length cp) (kept (ts.take k) bs).length ((kept (ts.take k) bs).map .string) ∧ Below w.heap.size w wr) (fun _ v11 _ => ts.length - (intOf v11).toNat)
  case atStart =>
    exact ⟨0, w.heap.size, 0, Nat.zero_le _, rfl, by simp [kept], by simp only [List.take_zero, kept]; exact World.ownsRow_lit w #[] 0 (Nat.le_refl _) (by simp [maxLen]) (by simp), (Below.refl _ _).alloc (Nat.le_refl _) _⟩
  case round =>
    obtain ⟨k, g, cp, hk, rfl, rfl, hown, hbel⟩ := hrel
    have hs1 := hbel.size
    by_cases hlt : k < ts.length
    · obtain ⟨b, off, rfl, c0⟩ := Vals.at (k := k) (x := .string ts[k]) (Vals.keep HT.out hbel) (by simp [hlt])
      have HS := Lib.hid (kept_take_succ ts bs k hlt)
      have hle := kept_length_le (ts.take k) bs
      have hle2 : (ts.take k).length ≤ k := List.length_take_le _ _
      generalize ts[k] = t at *
      generalize kept (ts.take k) bs = L at *
      by_cases hlb : k < bs.length
      · obtain ⟨b2, off2, rfl, c1⟩ := Vals.at (k := k) (x := .bool bs[k]) (Vals.keep HN.out hbel) (by simp [hlb])
        have HO := Lib.hid (show out bs k = bs[k] by simp [out, hlb])
        generalize bs[k] = bk at *
        cases bk
        · have HS2 := Lib.hid (show kept (ts.take (k + 1)) bs = L ++ [t] by rw [HS.out, HO.out]; simp)
          go_wp2_with (at_builtin; refine wpList_push rfl _ _ _ rfl elemStr rfl hown rfl rfl rfl (by simp [Value.oneCell']) (by omega) (by omega) ?_; intro g' cp' w' hown' hbel' hgr' hlt' hat')
          go_roundw
          case rel => exact ⟨k + 1, g', cp', hlt, by go_num, by rw [HS2.out]; simp, by rw [HS2.out]; simpa using hown', hbel.trans hbel'⟩
          case measure => simp [intOf]; omega
        · have HS2 := Lib.hid (show kept (ts.take (k + 1)) bs = L by rw [HS.out, HO.out]; simp)
          go_wp2_with fail
          go_roundw
          case rel => exact ⟨k + 1, g, cp, hlt, by go_num, by rw [HS2.out], by rw [HS2.out]; exact hown, hbel⟩
          case measure => simp [intOf]; omega
      · have HO := Lib.hid (show out bs k = false by simp [out, List.getD, List.getElem?_eq_none (Nat.le_of_not_lt hlb)])
        have HS2 := Lib.hid (show kept (ts.take (k + 1)) bs = L ++ [t] by rw [HS.out, HO.out]; simp)
        go_wp2_with (at_builtin; refine wpList_push rfl _ _ _ rfl elemStr rfl hown rfl rfl rfl (by simp [Value.oneCell']) (by omega) (by omega) ?_; intro g' cp' w' hown' hbel' hgr' hlt' hat')
        go_roundw
        case rel => exact ⟨k + 1, g', cp', hlt, by go_num, by rw [HS2.out]; simp, by rw [HS2.out]; simpa using hown', hbel.trans hbel'⟩
        case measure => simp [intOf]; omega
    · obtain rfl : k = ts.length := by omega
      rw [List.take_length] at hown ⊢
      go_wp2_with fail
      go_ret
      exact ⟨_, rfl, hown, hbel⟩

theorem lines_step (ts : List ByteArray) (k : Nat) (h : k < ts.length) (hk : 0 < k) : lines (ts.take (k + 1)) = (lines (ts.take k) ++ [10]) ++ ts[k].data.toList := by
  cases ts with
  | nil => simp at h
  | cons t r =>
    obtain ⟨j, rfl⟩ : ∃ j, k = j + 1 := ⟨k - 1, by omega⟩
    have hj : j < r.length := by simpa using h
    rw [List.take_succ_cons, List.take_succ_cons, List.take_succ_eq_append_getElem hj, lines_snoc]
    simp
theorem lines_first (ts : List ByteArray) (h : 0 < ts.length) : lines (ts.take 1) = ts[0].data.toList := by
  cases ts with
  | nil => simp at h
  | cons t r => simp [lines, tailLines]
theorem lines_take_le (ts : List ByteArray) (k : Nat) : (lines (ts.take k)).length ≤ (lines ts).length := by
  cases ts with
  | nil => simp
  | cons t r =>
    cases k with
    | zero => simp [lines]
    | succ k =>
      have := tailLines_take_le r k
      rw [List.take_succ_cons]
      simp only [lines, List.length_append]
      omega

set_option maxHeartbeats 1000000 in
theorem lines_any (tv : Value) (ts : List ByteArray) (w : World) (ht : Strs w tv ts) (hr : ts.length ≤ 68719476736) (hsz : (lines ts).length ≤ 1099511627776) :
    Calls Try.prog 12 #[tv] w fun e w' => e = .returned (.string ⟨(lines ts).toArray⟩) ∧ w = w' := by
  have HT := Lib.hid ht
  obtain ⟨A, cap, rfl, h1, h2, h3⟩ := ht
  clear h1 h2 h3
  simp only [List.length_map] at *
  go_enter Try.func12, Try.ntmps12
  go_wp2_with fail
  go_loop [3, 8] (fun v3 v8 => ∃ (k : Nat) (o : ByteArray), k ≤ ts.length ∧ v8 = .int .i64 k ∧ v3 = .string o ∧ o.data.toList = lines (ts.take k)) (fun _ v8 => ts.length - (intOf v8).toNat)
  case atStart => exact ⟨0, _, Nat.zero_le _, rfl, rfl, by simp [lines]⟩
  case round =>
    obtain ⟨k, o, hk, rfl, rfl, ho⟩ := hrel
    have HO := Lib.hid ho
    clear ho
    by_cases hlt : k < ts.length
    · obtain ⟨b, off, rfl, c0⟩ := Vals.at (k := k) (x := .string ts[k]) HT.out (by simp [hlt])
      have hl1 := lines_take_le ts (k + 1)
      by_cases hk0 : 0 < k
      · have hl2 : o.size + 1 + ts[k].size ≤ 1099511627776 := by
          have e1 : o.size = (lines (ts.take k)).length := by rw [← HO.out]; simp
          have e2 := lines_step ts k hlt hk0
          rw [e2] at hl1
          simp at hl1
          omega
        have HS := Lib.hid (lines_step ts k hlt hk0)
        clear hl1
        generalize ts[k] = t at *
        have hk1 : (0 : Int) < (k : Int) := by omega
        go_wp2
        go_round
        case rel => exact ⟨k + 1, _, hlt, by go_num, rfl, by rw [HS.out, ← HO.out]; simp⟩
        case measure => simp [intOf]; omega
      · obtain rfl : k = 0 := by omega
        have e0 : o.data.toList = [] := by rw [HO.out]; simp [lines]
        have e1 : o.size = 0 := by have := congrArg List.length e0; simpa using this
        have hl2 : o.size + ts[0].size ≤ 1099511627776 := by
          have e2 := lines_first ts hlt
          simp only [Nat.zero_add] at hl1
          rw [e2] at hl1
          simp at hl1
          omega
        have E0 := Lib.hid e0
        clear e0 e1
        have HS := Lib.hid (lines_first ts hlt)
        clear hl1
        generalize ts[0] = t at *
        simp only [Nat.add_zero] at c0
        go_wp2
        go_round
        case rel => exact ⟨1, _, hlt, by go_num, rfl, by rw [HS.out]; simp [E0.out]⟩
        case measure => simp [intOf]; omega
    · obtain rfl : k = ts.length := by omega
      have h2 := HO.out
      rw [List.take_length] at h2
      have H2 := Lib.hid h2
      clear h2 HO
      go_wp2
      go_ret
      exact ⟨by rw [← H2.out, bytes_eta]; rfl, rfl⟩
end Go.Proofs.Ytgkhnccedejjnaa
