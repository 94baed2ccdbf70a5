/-
  What the listed variable errors.errorType holds when the call begins, and a world that meets this.
  Conditions: none. (After the kit's worked example ToyasProofs.)
-/
import Derived.Test.YtccoeajjomfmnaaDoorRows
import Derived.Test.YtccoeajjomfmnaaDoorImplAsTo
import Derived.ChangeSame
import Derived.ChangeVars
import Derived.JoinedOf
import Derived.RowKit
import Derived.RowKitTokens
import Derived.LaidLaws
import Derived.LaidHandle
import Derived.Stop.Joined
namespace Go.Proofs.YtccoeajjomfmnaaDoor
open Go.ChangeShapes Go.WideShapes Go.RowKit

abbrev theLaid : List (String × DataW Unit) := [("errors.errorType", Rows.laid_errors_errorType)]
theorem laid_et : Tryd.prog.globalNamed "errors.errorType" = some 0 := by kernel_rfl
theorem laid_rt : (Tryd.prog.cutTypes.find? (·.1 == "internal/reflectlite.rtype")).map (·.2) = some 126 := by kernel_rfl
theorem laid_oneRow : ((List.range 163).filter fun t => Tryd.prog.rowNamed t [101, 114, 114, 111, 114]) = [54] := by kernel_rfl
theorem laid_size : Tryd.prog.types.size = 163 := by kernel_rfl

/-- What the condition gives a walk: the variable's one cell. -/
theorem handle_of_laid {W : World} (h : laidMetH Tryd.prog theLaid W) : ErrT W := by
  have h' : laidMet Tryd.prog [] W ∧ handlesMet Tryd.prog theLaid W := h
  obtain ⟨name, u, ty, e1, e2, e3, e4, e5⟩ := h'.2 _ (List.mem_singleton.2 rfl)
  have en : name = [101, 114, 114, 111, 114] := (Option.some.inj e1).symm
  subst en
  obtain rfl := Option.some.inj (laid_rt.symm.trans e2)
  have hm : ty ∈ (List.range 163).filter fun t => Tryd.prog.rowNamed t [101, 114, 114, 111, 114] := List.mem_filter.2 ⟨List.mem_range.2 (by rw [← laid_size]; exact e3), e4⟩
  rw [laid_oneRow] at hm
  obtain rfl := List.mem_singleton.1 hm
  have hh : typeHandle Tryd.prog 54 = .pointer (some ⟨1, 54, none⟩) := by kernel_rfl
  rw [hh] at e5
  have := World.var?_cell laid_et e5 0
  unfold ErrT
  simpa using this

/-- A world that meets the condition: the settled one, the variable's cell laid. -/
noncomputable def laidWorld (os : Os) : World :=
  let w0 := World.holding Tryd.prog os ⟨#[], #[], []⟩
  { w0 with heap := w0.heap.modify 0 fun
      | .cells _ t frozen => .cells #[.iface 126 (.agg #[.pointer (some ⟨1, 54, none⟩)])] t frozen
      | o => o }
theorem laidWorld_met (os : Os) (args : Array Value) : laidMetH Tryd.prog theLaid ((laidWorld os).forCall (fun _ _ => 0) ⟨#[], args, []⟩).memory :=
  laidMetH_of_parts (laidMet_nil _ _) (by kernel_rfl)
end Go.Proofs.YtccoeajjomfmnaaDoor
