/-
  The contract of spec.DrawNewText: the bytes as a text.
  Conditions: none.
-/
import Derived.Test.YtlobmpfgimdpgaaLarge
import Derived.Laws.BytesString
namespace Go.Proofs.Ytlobmpfgimdpgaa
open Go.RowKit Go.Lib

theorem foldl_push_size : ∀ (l : List Int) (s : ByteArray), (l.foldl (fun r n => r.push (UInt8.ofNat n.toNat)) s).size = s.size + l.length
  | [], s => by simp
  | x :: r, s => by
    rw [List.foldl_cons, foldl_push_size r]
    simp
    omega

theorem bytesString {P : Program} (w : World) (v : Value) (cl : List Int) (h : Vals w v (cl.map (.int .u8))) : ∃ s : ByteArray, s.size = cl.length ∧ (Conv.bytesToString v).run P w = .ok (.string s) w := by
  obtain ⟨A, cap, rfl, h1, h2, h3⟩ := h
  cases A with
  | none =>
    have h0 : cl.length = 0 := by
      cases cl with
      | nil => rfl
      | cons x r => obtain ⟨b, off, e, _⟩ := h3 (by simp); cases e
    exact ⟨ByteArray.empty, by rw [h0]; rfl, rfl⟩
  | some a =>
    refine ⟨_, ?_, run_bytesToString w a _ _ cl ?_⟩
    · rw [foldl_push_size]; simp
    · have := run_loadCells_list (P := P) (w := w) a (cl.map (.int .u8)) (fun j v hv => by
        have hp : 0 < (cl.map (Value.int .u8)).length := by
          have := (List.getElem?_eq_some_iff.1 hv).1
          omega
        obtain ⟨b, off, e, hc⟩ := h3 hp
        injection e with e
        subst e
        rw [add_none]
        exact hc j v hv)
      exact this

set_option maxHeartbeats 1000000 in
theorem drawNewText_any (v : Value) (cl : List Int) (w : World) (h : Vals w v (cl.map (.int .u8))) :
    Calls Try.prog 34 #[v] w fun e w' => ∃ s : ByteArray, e = .returned (.string s) ∧ s.size = cl.length ∧ w = w' := by
  obtain ⟨s, hs, hrun⟩ := bytesString (P := Try.prog) w v cl h
  obtain ⟨A, cap, rfl, _, _⟩ := h.form
  have hcv := run_convert_bytes_string (P := Try.prog) w 36 9 5 A (cl.map (Value.int .u8)).length cap Try.underlying36 Try.underlying5 Try.underlying9
  rw [hrun] at hcv
  clear h hrun
  simp only [List.length_map] at *
  go_enter Try.func34, Try.ntmps34
  go_wp2
  go_ret
  exact ⟨s, rfl, hs, rfl⟩
end Go.Proofs.Ytlobmpfgimdpgaa
