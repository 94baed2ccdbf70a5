/-
  The contract of the reference's Lines: texts with a newline between them.
  Conditions: at most 2^36 texts, and a whole text of at most 2^40 bytes.
-/
import Derived.Test.YtlobmpfgimdpgaaJoinErr
namespace Go.Proofs.Ytlobmpfgimdpgaa
open Go.RowKit Go.Lib

theorem lines_step (ts : List ByteArray) (k : Nat) (h : k < ts.length) (hk : 0 < k) : lines (ts.take (k + 1)) = (lines (ts.take k) ++ [10]) ++ ts[k].data.toList := by
  cases ts with
  | nil => simp at h
  | cons t r =>
    obtain ⟨j, rfl⟩ : ∃ j, k = j + 1 := ⟨k - 1, by omega⟩
    have hj : j < r.length := by simpa using h
    rw [List.take_succ_cons, List.take_succ_cons, List.take_succ_eq_append_getElem hj, lines_snoc]
    simp
theorem lines_first (ts : List ByteArray) (h : 0 < ts.length) : lines (ts.take 1) = ts[0].data.toList := by
  cases ts with
  | nil => simp at h
  | cons t r => simp [lines, tailLines]
theorem lines_take_le (ts : List ByteArray) (k : Nat) : (lines (ts.take k)).length ≤ (lines ts).length := by
  cases ts with
  | nil => simp
  | cons t r =>
    cases k with
    | zero => simp [lines]
    | succ k =>
      have := tailLines_take_le r k
      rw [List.take_succ_cons]
      simp only [lines, List.length_append]
      omega

set_option maxHeartbeats 1000000 in
theorem lines_any (tv : Value) (ts : List ByteArray) (w : World) (ht : Strs w tv ts) (hr : ts.length ≤ 68719476736) (hsz : (lines ts).length ≤ 1099511627776) :
    Calls Try.prog 40 #[tv] w fun e w' => e = .returned (.string ⟨(lines ts).toArray⟩) ∧ w = w' := by
  have HT := Lib.hid ht
  obtain ⟨A, cap, rfl, h1, h2, h3⟩ := ht
  clear h1 h2 h3
  simp only [List.length_map] at *
  go_enter Try.func40, Try.ntmps40
  go_wp2_with fail
  go_loop [3, 8] (fun v3 v8 => ∃ (k : Nat) (o : ByteArray), k ≤ ts.length ∧ v8 = .int .i64 k ∧ v3 = .string o ∧ o.data.toList = lines (ts.take k)) (fun _ v8 => ts.length - (intOf v8).toNat)
  case atStart => exact ⟨0, _, Nat.zero_le _, rfl, rfl, by simp [lines]⟩
  case round =>
    obtain ⟨k, o, hk, rfl, rfl, ho⟩ := hrel
    have HO := Lib.hid ho
    clear ho
    by_cases hlt : k < ts.length
    · obtain ⟨b, off, rfl, c0⟩ := Vals.at (k := k) (x := .string ts[k]) HT.out (by simp [hlt])
      have hl1 := lines_take_le ts (k + 1)
      by_cases hk0 : 0 < k
      · have hl2 : o.size + 1 + ts[k].size ≤ 1099511627776 := by
          have e1 : o.size = (lines (ts.take k)).length := by rw [← HO.out]; simp
          have e2 := lines_step ts k hlt hk0
          rw [e2] at hl1
          simp at hl1
          omega
        have HS := Lib.hid (lines_step ts k hlt hk0)
        clear hl1
        generalize ts[k] = t at *
        have hk1 : (0 : Int) < (k : Int) := by omega
        go_wp2
        go_round
        case rel => exact ⟨k + 1, _, hlt, by go_num, rfl, by rw [HS.out, ← HO.out]; simp⟩
        case measure => simp [intOf]; omega
      · obtain rfl : k = 0 := by omega
        have e0 : o.data.toList = [] := by rw [HO.out]; simp [lines]
        have e1 : o.size = 0 := by have := congrArg List.length e0; simpa using this
        have hl2 : o.size + ts[0].size ≤ 1099511627776 := by
          have e2 := lines_first ts hlt
          simp only [Nat.zero_add] at hl1
          rw [e2] at hl1
          simp at hl1
          omega
        have E0 := Lib.hid e0
        clear e0 e1
        have HS := Lib.hid (lines_first ts hlt)
        clear hl1
        generalize ts[0] = t at *
        simp only [Nat.add_zero] at c0
        go_wp2
        go_round
        case rel => exact ⟨1, _, hlt, by go_num, rfl, by rw [HS.out]; simp [E0.out]⟩
        case measure => simp [intOf]; omega
    · obtain rfl : k = ts.length := by omega
      have h2 := HO.out
      rw [List.take_length] at h2
      have H2 := Lib.hid h2
      clear h2 HO
      go_wp2
      go_ret
      exact ⟨by rw [← H2.out, bytes_eta]; rfl, rfl⟩
end Go.Proofs.Ytlobmpfgimdpgaa
