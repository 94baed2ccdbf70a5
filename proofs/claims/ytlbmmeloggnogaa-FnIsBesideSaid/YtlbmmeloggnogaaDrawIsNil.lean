/-
  The contract of the reference's DrawIsNil: some small nodes.
  Conditions: at most 2^20 bytes.
-/
import Derived.Test.YtlbmmeloggnogaaDrawN
namespace Go.Proofs.Ytlbmmeloggnogaa
open Go.RowKit Go.Lib

/-- A new reader. -/
theorem Rd.new (w : World) (cv : Value) (cl : List Int) (hv : Vals w cv (cl.map (.int .u8))) (hr : ∀ c ∈ cl, 0 ≤ c ∧ c ≤ 255) (hs : cl.length ≤ 1048576) :
    Rd (w.alloc (.cells #[cv, .int .i64 0] 62)) w.heap.size cv cl 0 :=
  ⟨heap_alloc_new w _, hv.keep (below_alloc _ _), hr, hs, fun h0 => hv.off (by simpa using h0) (Nat.le_refl _)⟩

theorem NodesSt.nodes {w : World} {g : Nat} {cv : Value} {cl : List Int} {p : Nat} {v : Value} {ns : List Nd} {kv : Nat → Value} {wr : World} (h : NodesSt w g cv cl p v ns kv wr) : Nodes wr v ns kv :=
  Nodes.of_own h.row fun i nd hi => Vals.of_own (h.kids i nd hi)

/-- Drawn nodes. -/
def DrewNodes (w : World) (e : Ending) (w' : World) : Prop := ∃ v ns kv, e = .returned v ∧ Nodes w' v ns kv ∧ Drawn8 ns ∧ Below w.heap.size w w'

set_option maxHeartbeats 1000000 in
theorem drawIsNil_any (w : World) (cv : Value) (cl : List Int) (hv : Vals w cv (cl.map (.int .u8))) (hr : ∀ c ∈ cl, 0 ≤ c ∧ c ≤ 255) (hs : cl.length ≤ 1048576) :
    Calls Try.prog 26 #[cv] w (DrewNodes w) := by
  have HR := Lib.hid (Rd.new w cv cl hv hr hs)
  obtain ⟨A, cap, hcv, _, _⟩ := hv.form
  rw [List.length_map] at hcv
  subst hcv
  clear hv hr
  go_enter Try.func26, Try.ntmps26
  go_wp2_with fail
  refine (nodes_any _ w.heap.size _ cl 0 HR.out (by omega)).mono ?_
  rintro e w1 ⟨v, ns, kv, p', rfl, _, hst⟩
  have HS := Lib.hid (And.intro hst.nodes (And.intro hst.small (below_of_grown (below_alloc _ _) hst.gr (Nat.le_refl _))))
  obtain ⟨B, capB, rfl, _, _⟩ := hst.nodes.form
  clear hst
  go_wp2_with fail
  go_ret
  exact ⟨_, ns, kv, rfl, HS.out.1, HS.out.2.1, HS.out.2.2⟩
end Go.Proofs.Ytlbmmeloggnogaa
