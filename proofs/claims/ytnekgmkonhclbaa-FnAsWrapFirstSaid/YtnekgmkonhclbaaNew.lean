/-
  The contract of errors.New, for every string and every world.
  Conditions: none.
-/
import Derived.Test.YtnekgmkonhclbaaProg
import Derived.WalkKit
import Derived.WalkLawsBesides
import Derived.Handy
import Derived.LaidEql
namespace Go.Proofs.Ytnekgmkonhclbaa
open Go.RowKit

theorem new_any (s : ByteArray) (w : World) :
    Calls Try.prog 42 #[.string s] w fun e w' => e = .returned (.iface 114 (.pointer (some ⟨w.heap.size, 0, none⟩))) ∧ w' = w.alloc (.cells #[.string s] 116) := by
  go_enter Try.func42, Try.ntmps42
  go_wp2
  go_ret
  exact ⟨rfl, rfl⟩

end Go.Proofs.Ytnekgmkonhclbaa
