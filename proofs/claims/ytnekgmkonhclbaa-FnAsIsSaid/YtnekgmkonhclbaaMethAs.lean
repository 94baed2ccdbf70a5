/-
  Type assertions that errors.AsType makes, and the method As of an error of the kind acts.
  Conditions: none.
-/
import Derived.Test.YtnekgmkonhclbaaMeth
namespace Go.Proofs.Ytnekgmkonhclbaa
open Go.RowKit Go.Lib

theorem asM_text (v : Value) (xT : TypeId) (w : World) : (Instr.typeAssert (.iface 114 v) xT 107 true).run Try.prog w = .ok (.tuple #[.nilIface, .bool false]) w := run_typeAssert_lacksB Try.underlying107 (by kernel_rfl) (by kernel_rfl) v xT w
theorem asM_value (v : Value) (xT : TypeId) (w : World) : (Instr.typeAssert (.iface 52 v) xT 107 true).run Try.prog w = .ok (.tuple #[.nilIface, .bool false]) w := run_typeAssert_lacksB Try.underlying107 (by kernel_rfl) (by kernel_rfl) v xT w
theorem asM_list (v : Value) (xT : TypeId) (w : World) : (Instr.typeAssert (.iface 80 v) xT 107 true).run Try.prog w = .ok (.tuple #[.nilIface, .bool false]) w := run_typeAssert_lacksB Try.underlying107 (by kernel_rfl) (by kernel_rfl) v xT w
theorem asM_wrap (v : Value) (xT : TypeId) (w : World) : (Instr.typeAssert (.iface 66 v) xT 107 true).run Try.prog w = .ok (.tuple #[.nilIface, .bool false]) w := run_typeAssert_lacksB Try.underlying107 (by kernel_rfl) (by kernel_rfl) v xT w
theorem asM_many (v : Value) (xT : TypeId) (w : World) : (Instr.typeAssert (.iface 62 v) xT 107 true).run Try.prog w = .ok (.tuple #[.nilIface, .bool false]) w := run_typeAssert_lacksB Try.underlying107 (by kernel_rfl) (by kernel_rfl) v xT w
theorem asM_join (v : Value) (xT : TypeId) (w : World) : (Instr.typeAssert (.iface 117 v) xT 107 true).run Try.prog w = .ok (.tuple #[.nilIface, .bool false]) w := run_typeAssert_lacksB Try.underlying107 (by kernel_rfl) (by kernel_rfl) v xT w
theorem asM_alike (v : Value) (xT : TypeId) (w : World) : (Instr.typeAssert (.iface 88 v) xT 107 true).run Try.prog w = .ok (.tuple #[.nilIface, .bool false]) w := run_typeAssert_lacksB Try.underlying107 (by kernel_rfl) (by kernel_rfl) v xT w
theorem asM_acts (v : Value) (xT : TypeId) (w : World) : (Instr.typeAssert (.iface 91 v) xT 107 true).run Try.prog w = .ok (.tuple #[.iface 91 v, .bool true]) w := run_typeAssert_hasB Try.underlying107 (by kernel_rfl) v xT w
theorem methA_acts (n : Nat) (v : Value) (w : World) : (Go.method (n + 1) 91 v "As").run Try.prog w = .ok (80, v) w := by kernel_rfl

theorem toV_same (v : Value) (xT : TypeId) (w : World) : (Instr.typeAssert (.iface 52 v) xT 52 true).run Try.prog w = .ok (.tuple #[v, .bool true]) w := by
  simp [Instr.typeAssert, run_underlying Try.underlying52]
theorem toV_zero : (Try.prog.info? 52).map (·.zero) = some (some (.agg #[.int .i64 0])) := by kernel_rfl
theorem toV_other (t : TypeId) (v : Value) (xT : TypeId) (ht : t ≠ 52) (w : World) : (Instr.typeAssert (.iface t v) xT 52 true).run Try.prog w = .ok (.tuple #[.agg #[.int .i64 0], .bool false]) w := by
  obtain ⟨i, hi, hz⟩ := Option.map_eq_some_iff.1 toV_zero
  simp [Instr.typeAssert, run_underlying Try.underlying52, ht, zeroValue, typeInfo, hi, hz]

theorem toW_same (v : Value) (xT : TypeId) (w : World) : (Instr.typeAssert (.iface 66 v) xT 66 true).run Try.prog w = .ok (.tuple #[v, .bool true]) w := by
  simp [Instr.typeAssert, run_underlying Try.underlying66]
theorem toW_zero : (Try.prog.info? 66).map (·.zero) = some (some (.pointer none)) := by kernel_rfl
theorem toW_other (t : TypeId) (v : Value) (xT : TypeId) (ht : t ≠ 66) (w : World) : (Instr.typeAssert (.iface t v) xT 66 true).run Try.prog w = .ok (.tuple #[.pointer none, .bool false]) w := by
  obtain ⟨i, hi, hz⟩ := Option.map_eq_some_iff.1 toW_zero
  simp [Instr.typeAssert, run_underlying Try.underlying66, ht, zeroValue, typeInfo, hi, hz]

theorem toM_same (v : Value) (xT : TypeId) (w : World) : (Instr.typeAssert (.iface 62 v) xT 62 true).run Try.prog w = .ok (.tuple #[v, .bool true]) w := by
  simp [Instr.typeAssert, run_underlying Try.underlying62]
theorem toM_zero : (Try.prog.info? 62).map (·.zero) = some (some (.pointer none)) := by kernel_rfl
theorem toM_other (t : TypeId) (v : Value) (xT : TypeId) (ht : t ≠ 62) (w : World) : (Instr.typeAssert (.iface t v) xT 62 true).run Try.prog w = .ok (.tuple #[.pointer none, .bool false]) w := by
  obtain ⟨i, hi, hz⟩ := Option.map_eq_some_iff.1 toM_zero
  simp [Instr.typeAssert, run_underlying Try.underlying62, ht, zeroValue, typeInfo, hi, hz]

end Go.Proofs.Ytnekgmkonhclbaa
