/-
  The contract of the method Error of what errors.New makes.
  Conditions: none.
-/
import Derived.Test.YtgkhnccedejjnaaNew
namespace Go.Proofs.Ytgkhnccedejjnaa
open Go.RowKit

theorem esError_any (a : Addr) (s : ByteArray) (w : World) (ha : w.cell? a = some (.string s)) :
    Calls Try.prog 36 #[.pointer (some a)] w fun e w' => e = .returned (.string s) ∧ w' = w := by
  go_enter Try.func36, Try.ntmps36
  go_wp2
  go_ret
  exact ⟨rfl, rfl⟩

end Go.Proofs.Ytgkhnccedejjnaa
