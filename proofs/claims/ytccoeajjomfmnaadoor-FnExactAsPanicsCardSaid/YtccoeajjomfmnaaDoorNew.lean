/-
  The contract of errors.New, for every string and every world.
  Conditions: none.
-/
import Derived.Test.YtccoeajjomfmnaaDoorProg
import Derived.WalkKit
import Derived.WalkLawsBesides
import Derived.Handy
import Derived.LaidEql
namespace Go.Proofs.YtccoeajjomfmnaaDoor
open Go.RowKit

theorem new_any (s : ByteArray) (w : World) :
    Calls Tryd.prog 36 #[.string s] w fun e w' => e = .returned (.iface 119 (.pointer (some ⟨w.heap.size, 0, none⟩))) ∧ w' = w.alloc (.cells #[.string s] 121) := by
  go_enter Tryd.func36, Tryd.ntmps36
  go_wp2
  go_ret
  exact ⟨rfl, rfl⟩

end Go.Proofs.YtccoeajjomfmnaaDoor
