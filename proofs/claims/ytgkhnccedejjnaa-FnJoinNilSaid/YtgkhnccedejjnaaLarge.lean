/-
  The contract of laws.large: whether there are more than 2^20 bytes.
  Conditions: none.
-/
import Derived.Test.YtgkhnccedejjnaaProg
import Derived.Test.YtgkhnccedejjnaaMem
namespace Go.Proofs.Ytgkhnccedejjnaa
open Go.RowKit Go.Lib
theorem large_any (A : Option Addr) (n cap : Nat) (w : World) :
    Calls Try.prog 13 #[.slice A n cap] w fun e w' => e = .returned (.bool (decide (1048576 < n))) ∧ w = w' := by
  go_enter Try.func13, Try.ntmps13
  go_wp2
  go_ret
  exact ⟨by congr 2; simp; omega, rfl⟩
end Go.Proofs.Ytgkhnccedejjnaa
