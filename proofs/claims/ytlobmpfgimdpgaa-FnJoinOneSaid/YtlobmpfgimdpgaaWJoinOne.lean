/-
  The walk of the law FnJoinOne: it returns true.
  Conditions: none but that the bytes are bytes.
-/
import Derived.Test.YtlobmpfgimdpgaaDrawNew
import Derived.Test.YtlobmpfgimdpgaaTexts
import Derived.Test.YtlobmpfgimdpgaaNewText
import Derived.Test.YtlobmpfgimdpgaaJoinKids
namespace Go.Proofs.Ytlobmpfgimdpgaa
open Go.RowKit Go.Lib

theorem joinTexts_one (v : Value) (s : ByteArray) (w : World) (h : Strs w v [s]) (hs : s.size ≤ 1099511627776) :
    Calls Try.prog 22 #[v, .slice none 0 0] w fun e w' => e = .returned (.tuple #[.string s, .bool true]) ∧ Below w.heap.size w w' := by
  have := joinTexts_any v (.slice none 0 0) [s] [] w h (Vals.nil w) (by simp) (by simpa [kept, lines, tailLines] using hs)
  simpa [kept, lines, tailLines] using this
theorem joinTexts_none (w : World) :
    Calls Try.prog 22 #[.slice none 0 0, .slice none 0 0] w fun e w' => e = .returned (.tuple #[.string ⟨#[]⟩, .bool false]) ∧ Below w.heap.size w w' := by
  have := joinTexts_any (.slice none 0 0) (.slice none 0 0) [] [] w (Vals.nil w) (Vals.nil w) (by simp) (by simp [kept, lines])
  simpa [kept, lines, tailLines] using this
theorem joinTexts_not (v nv : Value) (s : ByteArray) (w : World) (h : Strs w v [s, s]) (hb : Bools w nv [true, true]) :
    Calls Try.prog 22 #[v, nv] w fun e w' => e = .returned (.tuple #[.string ⟨#[]⟩, .bool false]) ∧ Below w.heap.size w w' := by
  have := joinTexts_any v nv [s, s] [true, true] w h hb (by simp) (by simp [kept, lines])
  simpa [kept, lines, tailLines] using this

/-- The one node that the law makes. -/
def oneNode (s : ByteArray) : Nd := ⟨kText, 0, s, []⟩
theorem one_there (s : ByteArray) : isThere [oneNode s] 0 = true := by
  rw [isThere_eq [oneNode s] 0 (oneNode s) rfl]
  rfl
theorem one_present (s : ByteArray) : presentL [oneNode s] [0] = [0] := by
  rw [presentL_cons]
  simp [one_there, presentL]
theorem one_least (s : ByteArray) : leastOf [oneNode s] 0 = 0 := by
  unfold leastOf
  simp [oneNode, show kText ≠ kValue by decide]
theorem one_nodes (s : ByteArray) (w : World) : Nodes (w.alloc (.cells #[.string kText, .int .i64 0, .string s, .slice none 0 0] 59)) (.slice (some ⟨w.heap.size, 0, none⟩) 1 1) [oneNode s] (fun _ => .slice none 0 0) := by
  have hbx := heap_alloc_new w (.cells #[.string kText, .int .i64 0, .string s, .slice none 0 0] 59)
  refine ⟨⟨_, 1, rfl, by simp, by simp [maxLen], fun _ => ⟨w.heap.size, 0, rfl, fun i nd hi => ?_⟩⟩, fun i nd hi => ?_⟩
  · obtain ⟨hi1, rfl⟩ := List.getElem?_eq_some_iff.1 hi
    obtain rfl : i = 0 := by simpa using hi1
    exact ⟨cell_of_heap hbx 0 rfl, cell_of_heap hbx 1 rfl, cell_of_heap hbx 2 rfl, cell_of_heap hbx 3 rfl⟩
  · obtain ⟨hi1, rfl⟩ := List.getElem?_eq_some_iff.1 hi
    obtain rfl : i = 0 := by simpa using hi1
    exact Vals.nil _

set_option maxRecDepth 100000 in
set_option maxHeartbeats 8000000 in
theorem wFnJoinOne (w : World) (cv : Value) (cl : List Int) (hv : Vals w cv (cl.map (.int .u8))) (hr : ∀ c ∈ cl, 0 ≤ c ∧ c ≤ 255) :
    Calls Try.prog 10 #[cv] w fun e w' => e = .returned (.bool true) ∧ Below w.heap.size w w' := by
  obtain ⟨A, cap, rfl, hlc, hcm⟩ := hv.form
  simp only [List.length_map] at *
  have HV := Lib.hid hv
  have HR := Lib.hid hr
  clear hv hr
  by_cases hbig : 1048576 < cl.length
  · go_enter Try.func10, Try.ntmps10
    go_wp2_with fail
    refine (large_any _ _ _ _).mono ?_
    rintro e w1 ⟨rfl, rfl⟩
    go_wp2_with fail
    go_ret
    exact ⟨rfl, Below.refl _ _⟩
  · have hd : decide (1048576 < cl.length) = false := by simpa using hbig
    go_enter Try.func10, Try.ntmps10
    go_wp2_with fail
    refine (large_any _ _ _ _).mono ?_
    rintro e w1 ⟨rfl, rfl⟩
    rw [hd]
    clear hd
    go_wp2_with fail
    refine (drawNewText_any _ cl w HV.out).mono ?_
    rintro e w1 ⟨s, rfl, hs, rfl⟩
    have HZ := Lib.hid (show s.size ≤ 1099511627776 by omega)
    clear hs
    go_wp2_with fail
    refine (joinTexts_one _ s _ (Vals.lit w #[.string s] 9 1 rfl (by omega)) HZ.out).mono ?_
    rintro e w2 ⟨rfl, hb⟩
    have hB2 := below_box hb
    clear hb
    go_wp2_with fail
    refine (joinTexts_none _).mono ?_
    rintro e w3 ⟨rfl, hb⟩
    have hB3 := below_after hB2 hb
    clear hb hB2
    go_wp2_with fail
    refine (joinTexts_not _ _ s _ ((Vals.lit w3 #[.string s, .string s] 9 2 rfl (by omega)).keep (below_alloc _ _)) ?_).mono ?_
    · have := Vals.lit (w3.alloc (.cells #[.string s, .string s] 9)) #[.bool true, .bool true] 4 2 rfl (by omega)
      unfold Bools; simpa using this
    rintro e w4 ⟨rfl, hb⟩
    have hB4 := below_after hB3 (below_box (below_box hb))
    clear hb hB3
    go_wp2_with fail
    refine (implJoinKids _ _ [oneNode s] _ [0] _ ((one_nodes s w4).keep (below_alloc _ _)) ?_ (by simp) (by simp [oneNode]) (by simp)).mono ?_
    · have := Vals.lit (w4.alloc (.cells #[.string kText, .int .i64 0, .string s, .slice none 0 0] 59)) #[.int .i64 0] 3 1 rfl (by omega)
      unfold Ints; simpa using this
    rintro e w5 ⟨g, cp, rfl, hown, hb⟩
    have hB5 := below_after hB4 (below_box (below_box hb))
    rw [one_present] at hown ⊢
    have c0 := World.ownsRow.cells hown (g := g) rfl 0 (.int .i64 0) (by simp [chainInts, one_least])
    clear hb hB4 hown
    rw [add_none] at c0
    simp only [List.length_singleton, List.isEmpty_cons, Bool.not_false, Nat.add_zero] at c0 ⊢
    go_wp2_with fail
    refine (newText_any s _).mono ?_
    rintro e w6 ⟨rfl, rfl⟩
    go_wp2_with fail
    refine (newSame_any s s _).mono ?_
    rintro e w7 ⟨rfl, rfl⟩
    go_wp2_with fail
    go_ret
    refine ⟨rfl, ?_⟩
    exact below_after hB5 (below_box (below_box (below_alloc _ _)))
end Go.Proofs.Ytlobmpfgimdpgaa
