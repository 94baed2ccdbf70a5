/-
  The contracts of errors.New, of the method Error of what it makes, of impl.NewText and of impl.NewSame, for every string and every world.
  Conditions: none.
-/
import Derived.Test.YtgkhnccedejjnaaProg
import Derived.WalkKit
import Derived.WalkLawsBesides
import Derived.Handy
import Derived.LaidEql
namespace Go.Proofs.Ytgkhnccedejjnaa
open Go.RowKit

theorem new_any (s : ByteArray) (w : World) :
    Calls Try.prog 16 #[.string s] w fun e w' => e = .returned (.iface 47 (.pointer (some ⟨w.heap.size, 0, none⟩))) ∧ w' = w.alloc (.cells #[.string s] 49) := by
  go_enter Try.func16, Try.ntmps16
  go_wp2
  go_ret
  exact ⟨rfl, rfl⟩

theorem esError_any (a : Addr) (s : ByteArray) (w : World) (ha : w.cell? a = some (.string s)) :
    Calls Try.prog 36 #[.pointer (some a)] w fun e w' => e = .returned (.string s) ∧ w' = w := by
  go_enter Try.func36, Try.ntmps36
  go_wp2
  go_ret
  exact ⟨rfl, rfl⟩

theorem newText_any (s : ByteArray) (w : World) :
    Calls Try.prog 8 #[.string s] w fun e w' => e = .returned (.string s) ∧ w' = w.alloc (.cells #[.string s] 49) := by
  go_enter Try.func8, Try.ntmps8
  go_wp2
  go_ret
  exact ⟨rfl, rfl⟩

theorem esComp : (Try.prog.info? 47).map (·.comparable) = some true := by kernel_rfl
theorem esSize : (Try.prog.info? 49).map (·.size) = some 1 := by kernel_rfl

theorem newSame_any (s t : ByteArray) (w : World) :
    Calls Try.prog 9 #[.string s, .string t] w fun e w' => e = .returned (.bool false) ∧ w' = (w.alloc (.cells #[.string s] 49)).alloc (.cells #[.string t] 49) := by
  obtain ⟨i, hi, hcmp⟩ := Option.map_eq_some_iff.1 esComp
  obtain ⟨j, hj, hjs⟩ := Option.map_eq_some_iff.1 esSize
  have heq := run_eql_iface_ptr_other (P := Try.prog) ((w.alloc (.cells #[.string s] 49)).alloc (.cells #[.string t] 49)) (a := ⟨w.heap.size, 0, none⟩) (b := ⟨w.heap.size + 1, 0, none⟩)
    Try.underlying38 Try.underlying47 hi hcmp hj (by rw [hjs]; decide) (by simp)
    (by rw [Below.heap_alloc _ _ _ (by simp)]; exact heap_alloc_new w _) (by have := heap_alloc_new (w.alloc (.cells #[.string s] 49)) (.cells #[.string t] 49); simpa using this)
  clear hi hcmp hj hjs
  go_enter Try.func9, Try.ntmps9
  go_wp2
  go_ret
  exact ⟨rfl, rfl⟩
end Go.Proofs.Ytgkhnccedejjnaa
