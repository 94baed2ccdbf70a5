/-
  The contract of laws.large: whether there are more than 2^20 bytes.
  Conditions: none.
-/
import Derived.Test.YtccoeajjomfmnaaDoorProg
import Derived.Test.YtccoeajjomfmnaaDoorMem
namespace Go.Proofs.YtccoeajjomfmnaaDoor
open Go.RowKit Go.Lib
theorem large_any (A : Option Addr) (n cap : Nat) (w : World) :
    Calls Tryd.prog 7 #[.slice A n cap] w fun e w' => e = .returned (.bool (decide (1048576 < n))) ∧ w = w' := by
  go_enter Tryd.func7, Tryd.ntmps7
  go_wp2
  go_ret
  exact ⟨by congr 2; simp; omega, rfl⟩
end Go.Proofs.YtccoeajjomfmnaaDoor
