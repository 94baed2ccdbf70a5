/-
  The contract of the method Is of an error of the kind alike, and which errors have this method.
  Conditions: none.
-/
import Derived.Test.YtnekgmkonhclbaaMeth
namespace Go.Proofs.Ytnekgmkonhclbaa
open Go.RowKit Go.Lib

theorem isM_text (v : Value) (xT : TypeId) (w : World) : (Instr.typeAssert (.iface 114 v) xT 123 true).run Try.prog w = .ok (.tuple #[.nilIface, .bool false]) w := run_typeAssert_lacksB Try.underlying123 (by kernel_rfl) (by kernel_rfl) v xT w
theorem isM_value (v : Value) (xT : TypeId) (w : World) : (Instr.typeAssert (.iface 52 v) xT 123 true).run Try.prog w = .ok (.tuple #[.nilIface, .bool false]) w := run_typeAssert_lacksB Try.underlying123 (by kernel_rfl) (by kernel_rfl) v xT w
theorem isM_list (v : Value) (xT : TypeId) (w : World) : (Instr.typeAssert (.iface 80 v) xT 123 true).run Try.prog w = .ok (.tuple #[.nilIface, .bool false]) w := run_typeAssert_lacksB Try.underlying123 (by kernel_rfl) (by kernel_rfl) v xT w
theorem isM_wrap (v : Value) (xT : TypeId) (w : World) : (Instr.typeAssert (.iface 66 v) xT 123 true).run Try.prog w = .ok (.tuple #[.nilIface, .bool false]) w := run_typeAssert_lacksB Try.underlying123 (by kernel_rfl) (by kernel_rfl) v xT w
theorem isM_many (v : Value) (xT : TypeId) (w : World) : (Instr.typeAssert (.iface 62 v) xT 123 true).run Try.prog w = .ok (.tuple #[.nilIface, .bool false]) w := run_typeAssert_lacksB Try.underlying123 (by kernel_rfl) (by kernel_rfl) v xT w
theorem isM_join (v : Value) (xT : TypeId) (w : World) : (Instr.typeAssert (.iface 117 v) xT 123 true).run Try.prog w = .ok (.tuple #[.nilIface, .bool false]) w := run_typeAssert_lacksB Try.underlying123 (by kernel_rfl) (by kernel_rfl) v xT w
theorem isM_alike (v : Value) (xT : TypeId) (w : World) : (Instr.typeAssert (.iface 88 v) xT 123 true).run Try.prog w = .ok (.tuple #[.iface 88 v, .bool true]) w := run_typeAssert_hasB Try.underlying123 (by kernel_rfl) v xT w
theorem isM_acts (v : Value) (xT : TypeId) (w : World) : (Instr.typeAssert (.iface 91 v) xT 123 true).run Try.prog w = .ok (.tuple #[.nilIface, .bool false]) w := run_typeAssert_lacksB Try.underlying123 (by kernel_rfl) (by kernel_rfl) v xT w
theorem methI_alike (n : Nat) (v : Value) (w : World) : (Go.method (n + 1) 88 v "Is").run Try.prog w = .ok (78, v) w := by kernel_rfl

theorem asValue_same (v : Value) (xT : TypeId) (w : World) : (Instr.typeAssert (.iface 52 v) xT 52 true).run Try.prog w = .ok (.tuple #[v, .bool true]) w := by
  simp [Instr.typeAssert, run_underlying Try.underlying52]
theorem valueZero : (Try.prog.info? 52).map (·.zero) = some (some (.agg #[.int .i64 0])) := by kernel_rfl
theorem asValue_other (t : TypeId) (v : Value) (xT : TypeId) (ht : t ≠ 52) (w : World) : (Instr.typeAssert (.iface t v) xT 52 true).run Try.prog w = .ok (.tuple #[.agg #[.int .i64 0], .bool false]) w := by
  obtain ⟨i, hi, hz⟩ := Option.map_eq_some_iff.1 valueZero
  simp [Instr.typeAssert, run_underlying Try.underlying52, ht, zeroValue, typeInfo, hi, hz]

set_option maxRecDepth 100000 in
set_option maxHeartbeats 1000000 in
theorem alikeIs_value (b : Nat) (key q : Int) (w : World) (h : w.cell? ⟨b, 0, none⟩ = some (.int .i64 key)) :
    Calls Try.prog 78 #[.pointer (some ⟨b, 0, none⟩), .iface 52 (.agg #[.int .i64 q])] w fun e w' => e = .returned (.bool (q == key)) ∧ Below w.heap.size w w' := by
  have hT := asValue_same
  have hA : ∀ o, (w.alloc o).cell? ⟨b, 0, none⟩ = some (.int .i64 key) := fun o => cell_keep (below_alloc w o) h
  go_enter Try.func78, Try.ntmps78
  go_wp2
  go_quiet (fail)
  go_wp2
  go_ret
  exact ⟨rfl, below_drewN' (below_alloc _ _) _⟩

set_option maxRecDepth 100000 in
set_option maxHeartbeats 1000000 in
theorem alikeIs_other (b : Nat) (t : TypeId) (u : Value) (ht : t ≠ 52) (w : World) :
    Calls Try.prog 78 #[.pointer (some ⟨b, 0, none⟩), .iface t u] w fun e w' => e = .returned (.bool false) ∧ Below w.heap.size w w' := by
  have hT := asValue_other t u 56 ht
  clear ht
  go_enter Try.func78, Try.ntmps78
  go_wp2
  go_quiet (fail)
  go_wp2
  go_ret
  exact ⟨rfl, below_drewN' (below_alloc _ _) _⟩
end Go.Proofs.Ytnekgmkonhclbaa
