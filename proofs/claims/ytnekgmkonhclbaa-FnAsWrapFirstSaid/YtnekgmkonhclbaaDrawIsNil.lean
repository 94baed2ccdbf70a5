/-
  The contract of the reference's DrawIsNil: some small nodes.
  Conditions: at most 2^20 bytes.
-/
import Derived.Test.YtnekgmkonhclbaaDrawN
namespace Go.Proofs.Ytnekgmkonhclbaa
open Go.RowKit Go.Lib

/-- Drawn nodes. -/
def DrewNodes (w : World) (e : Ending) (w' : World) : Prop := ∃ v ns kv, e = .returned v ∧ Nodes w' v ns kv ∧ Drawn8 ns ∧ Below w.heap.size w w'

set_option maxHeartbeats 1000000 in
theorem drawIsNil_any (w : World) (cv : Value) (cl : List Int) (hv : Vals w cv (cl.map (.int .u8))) (hr : ∀ c ∈ cl, 0 ≤ c ∧ c ≤ 255) (hs : cl.length ≤ 1048576) :
    Calls Try.prog 30 #[cv] w (DrewNodes w) := by
  have HR := Lib.hid (Rd.new w cv cl hv hr hs)
  obtain ⟨A, cap, hcv, _, _⟩ := hv.form
  rw [List.length_map] at hcv
  subst hcv
  clear hv hr
  go_enter Try.func30, Try.ntmps30
  go_wp2_with fail
  refine (nodes_any _ w.heap.size _ cl 0 HR.out (by omega)).mono ?_
  rintro e w1 ⟨v, ns, kv, p', rfl, _, hst⟩
  have HS := Lib.hid (And.intro hst.nodes (And.intro hst.small (below_of_grown (below_alloc _ _) hst.gr (Nat.le_refl _))))
  obtain ⟨B, capB, rfl, _, _⟩ := hst.nodes.form
  clear hst
  go_wp2_with fail
  go_ret
  exact ⟨_, ns, kv, rfl, HS.out.1, HS.out.2.1, HS.out.2.2⟩
end Go.Proofs.Ytnekgmkonhclbaa
