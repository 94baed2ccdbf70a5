/-
  The method As of an error of the kind acts: it sets a pointer to a value.
  Conditions: none.
-/
import Derived.Test.YtccoeajjomfmnaaDoorMethAs
import Derived.Deep.QuietTactic
import Derived.BigQuiet
import Derived.Outline
namespace Go.Proofs.YtccoeajjomfmnaaDoor
open Go.RowKit Go.Lib

theorem toPV_same (v : Value) (xT : TypeId) (w : World) : (Instr.typeAssert (.iface 60 v) xT 60 true).run Tryd.prog w = .ok (.tuple #[v, .bool true]) w := by
  simp [Instr.typeAssert, run_underlying Tryd.underlying60]
theorem toPV_zero : (Tryd.prog.info? 60).map (·.zero) = some (some (.pointer none)) := by kernel_rfl
theorem toPV_other (t : TypeId) (v : Value) (xT : TypeId) (ht : t ≠ 60) (w : World) : (Instr.typeAssert (.iface t v) xT 60 true).run Tryd.prog w = .ok (.tuple #[.pointer none, .bool false]) w := by
  obtain ⟨i, hi, hz⟩ := Option.map_eq_some_iff.1 toPV_zero
  simp [Instr.typeAssert, run_underlying Tryd.underlying60, ht, zeroValue, typeInfo, hi, hz]

set_option maxRecDepth 100000 in
set_option maxHeartbeats 1000000 in
theorem actsAs_value (b Q : Nat) (key : Int) (x : Int) (w : World) (h : w.cell? ⟨b, 0, none⟩ = some (.int .i64 key)) (hQ : w.cell? ⟨Q, 0, none⟩ = some (.int .i64 x)) (hf : w.frozen? ⟨Q, 0, none⟩ = false) :
    Calls Tryd.prog 79 #[.pointer (some ⟨b, 0, none⟩), .iface 60 (.pointer (some ⟨Q, 0, none⟩))] w fun e w' => e = .returned (.bool true) ∧ w' = w.setCell ⟨Q, 0, none⟩ (.int .i64 key) := by
  have hT := toPV_same
  go_enter Tryd.func79, Tryd.ntmps79
  go_wp2
  go_ret
  exact ⟨rfl, rfl⟩

set_option maxRecDepth 100000 in
set_option maxHeartbeats 1000000 in
theorem actsAs_other (b : Nat) (t : TypeId) (v : Value) (ht : t ≠ 60) (w : World) :
    Calls Tryd.prog 79 #[.pointer (some ⟨b, 0, none⟩), .iface t v] w fun e w' => e = .returned (.bool false) ∧ w = w' := by
  have hT := fun xT w => toPV_other t v xT ht w
  go_enter Tryd.func79, Tryd.ntmps79
  go_wp2
  go_ret
  exact ⟨rfl, rfl⟩
end Go.Proofs.YtccoeajjomfmnaaDoor
