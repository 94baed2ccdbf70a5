/-
  The contract of errors.New, for every string and every world.
  Conditions: none.
-/
import Derived.Test.YtgkhnccedejjnaaProg
import Derived.WalkKit
import Derived.WalkLawsBesides
import Derived.Handy
import Derived.LaidEql
namespace Go.Proofs.Ytgkhnccedejjnaa
open Go.RowKit

theorem new_any (s : ByteArray) (w : World) :
    Calls Try.prog 16 #[.string s] w fun e w' => e = .returned (.iface 47 (.pointer (some ⟨w.heap.size, 0, none⟩))) ∧ w' = w.alloc (.cells #[.string s] 49) := by
  go_enter Try.func16, Try.ntmps16
  go_wp2
  go_ret
  exact ⟨rfl, rfl⟩

end Go.Proofs.Ytgkhnccedejjnaa
