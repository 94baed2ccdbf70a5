/-
  The contracts of impl.NewText and of impl.NewSame, for every string and every world.
  Conditions: none.
-/
import Derived.Test.YtlobmpfgimdpgaaNew
import Derived.LaidEql
namespace Go.Proofs.Ytlobmpfgimdpgaa
open Go.RowKit

theorem newText_any (s : ByteArray) (w : World) :
    Calls Try.prog 35 #[.string s] w fun e w' => e = .returned (.string s) ∧ w' = w.alloc (.cells #[.string s] 103) := by
  go_enter Try.func35, Try.ntmps35
  go_wp2
  go_ret
  exact ⟨rfl, rfl⟩

theorem esComp : (Try.prog.info? 101).map (·.comparable) = some true := by kernel_rfl
theorem esSize : (Try.prog.info? 103).map (·.size) = some 1 := by kernel_rfl

theorem newSame_any (s t : ByteArray) (w : World) :
    Calls Try.prog 36 #[.string s, .string t] w fun e w' => e = .returned (.bool false) ∧ w' = (w.alloc (.cells #[.string s] 103)).alloc (.cells #[.string t] 103) := by
  obtain ⟨i, hi, hcmp⟩ := Option.map_eq_some_iff.1 esComp
  obtain ⟨j, hj, hjs⟩ := Option.map_eq_some_iff.1 esSize
  have heq := run_eql_iface_ptr_other (P := Try.prog) ((w.alloc (.cells #[.string s] 103)).alloc (.cells #[.string t] 103)) (a := ⟨w.heap.size, 0, none⟩) (b := ⟨w.heap.size + 1, 0, none⟩)
    Try.underlying64 Try.underlying101 hi hcmp hj (by rw [hjs]; decide) (by simp)
    (by rw [Below.heap_alloc _ _ _ (by simp)]; exact heap_alloc_new w _) (by have := heap_alloc_new (w.alloc (.cells #[.string s] 103)) (.cells #[.string t] 103); simpa using this)
  clear hi hcmp hj hjs
  go_enter Try.func36, Try.ntmps36
  go_wp2
  go_ret
  exact ⟨rfl, rfl⟩
end Go.Proofs.Ytlobmpfgimdpgaa
