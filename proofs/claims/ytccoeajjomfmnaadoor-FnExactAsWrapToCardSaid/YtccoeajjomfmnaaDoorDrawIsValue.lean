/-
  The contract of the reference's DrawIsValue: some small nodes and a key that is not 9.
  Conditions: at most 2^20 bytes.
-/
import Derived.Test.YtccoeajjomfmnaaDoorDrawN
namespace Go.Proofs.YtccoeajjomfmnaaDoor
open Go.RowKit Go.Lib

/-- Drawn nodes and a key. -/
def DrewKey (w : World) (e : Ending) (w' : World) : Prop := ∃ v ns kv key, e = .returned (.tuple #[v, .int .i64 key]) ∧ key ≠ 9 ∧ Nodes w' v ns kv ∧ Drawn8 ns ∧ Below w.heap.size w w'

set_option maxHeartbeats 1000000 in
theorem drawIsValue_any (w : World) (cv : Value) (cl : List Int) (hv : Vals w cv (cl.map (.int .u8))) (hr : ∀ c ∈ cl, 0 ≤ c ∧ c ≤ 255) (hs : cl.length ≤ 1048576) :
    Calls Tryd.prog 22 #[cv] w (DrewKey w) := by
  have HR := Lib.hid (Rd.new w cv cl hv hr hs)
  obtain ⟨A, cap, hcv, _, _⟩ := hv.form
  rw [List.length_map] at hcv
  subst hcv
  clear hv hr
  go_enter Tryd.func22, Tryd.ntmps22
  go_wp2_with fail
  refine (nodes_any _ w.heap.size _ cl 0 HR.out (by omega)).mono ?_
  rintro e w1 ⟨v, ns, kv, p', rfl, hp', hst⟩
  have HS := Lib.hid (And.intro hst (below_of_grown (below_alloc _ _) hst.gr (Nat.le_refl _)))
  obtain ⟨B, capB, rfl, _, _⟩ := hst.nodes.form
  clear hst
  go_wp2_with fail
  refine (key_any _ w.heap.size _ cl p' HS.out.1.rd (by omega)).mono ?_
  rintro e w2 ⟨key, p2, rfl, hk9, _, hrd, hgr⟩
  have h2 := HS.out.1.picked hrd hgr
  have HS2 := Lib.hid (And.intro h2 (below_of_grown HS.out.2 hgr (Nat.le_refl _)))
  clear h2 hrd hgr
  go_wp2_with fail
  go_ret2
  exact ⟨_, ns, kv, key, rfl, hk9, HS2.out.1.nodes, HS2.out.1.small, HS2.out.2⟩
end Go.Proofs.YtccoeajjomfmnaaDoor
