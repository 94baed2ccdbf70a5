/-
  The contract of errors.New, for every string and every world.
  Conditions: none.
-/
import Derived.Test.YtlbmmeloggnogaaProg
import Derived.WalkKit
import Derived.WalkLawsBesides
import Derived.Handy
import Derived.LaidEql
namespace Go.Proofs.Ytlbmmeloggnogaa
open Go.RowKit

theorem new_any (s : ByteArray) (w : World) :
    Calls Try.prog 41 #[.string s] w fun e w' => e = .returned (.iface 104 (.pointer (some ⟨w.heap.size, 0, none⟩))) ∧ w' = w.alloc (.cells #[.string s] 106) := by
  go_enter Try.func41, Try.ntmps41
  go_wp2
  go_ret
  exact ⟨rfl, rfl⟩

end Go.Proofs.Ytlbmmeloggnogaa
