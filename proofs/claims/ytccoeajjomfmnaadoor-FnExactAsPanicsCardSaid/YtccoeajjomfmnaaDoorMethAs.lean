/-
  Type assertions that errors.AsType makes, and the method As of an error of the kind acts.
  Conditions: none.
-/
import Derived.Test.YtccoeajjomfmnaaDoorMeth
namespace Go.Proofs.YtccoeajjomfmnaaDoor
open Go.RowKit Go.Lib

theorem asM_text (v : Value) (xT : TypeId) (w : World) : (Instr.typeAssert (.iface 119 v) xT 112 true).run Tryd.prog w = .ok (.tuple #[.nilIface, .bool false]) w := run_typeAssert_lacksB Tryd.underlying112 (by kernel_rfl) (by kernel_rfl) v xT w
theorem asM_value (v : Value) (xT : TypeId) (w : World) : (Instr.typeAssert (.iface 50 v) xT 112 true).run Tryd.prog w = .ok (.tuple #[.nilIface, .bool false]) w := run_typeAssert_lacksB Tryd.underlying112 (by kernel_rfl) (by kernel_rfl) v xT w
theorem asM_list (v : Value) (xT : TypeId) (w : World) : (Instr.typeAssert (.iface 80 v) xT 112 true).run Tryd.prog w = .ok (.tuple #[.nilIface, .bool false]) w := run_typeAssert_lacksB Tryd.underlying112 (by kernel_rfl) (by kernel_rfl) v xT w
theorem asM_wrap (v : Value) (xT : TypeId) (w : World) : (Instr.typeAssert (.iface 61 v) xT 112 true).run Tryd.prog w = .ok (.tuple #[.nilIface, .bool false]) w := run_typeAssert_lacksB Tryd.underlying112 (by kernel_rfl) (by kernel_rfl) v xT w
theorem asM_many (v : Value) (xT : TypeId) (w : World) : (Instr.typeAssert (.iface 84 v) xT 112 true).run Tryd.prog w = .ok (.tuple #[.nilIface, .bool false]) w := run_typeAssert_lacksB Tryd.underlying112 (by kernel_rfl) (by kernel_rfl) v xT w
theorem asM_join (v : Value) (xT : TypeId) (w : World) : (Instr.typeAssert (.iface 122 v) xT 112 true).run Tryd.prog w = .ok (.tuple #[.nilIface, .bool false]) w := run_typeAssert_lacksB Tryd.underlying112 (by kernel_rfl) (by kernel_rfl) v xT w
theorem asM_alike (v : Value) (xT : TypeId) (w : World) : (Instr.typeAssert (.iface 89 v) xT 112 true).run Tryd.prog w = .ok (.tuple #[.nilIface, .bool false]) w := run_typeAssert_lacksB Tryd.underlying112 (by kernel_rfl) (by kernel_rfl) v xT w
theorem asM_acts (v : Value) (xT : TypeId) (w : World) : (Instr.typeAssert (.iface 92 v) xT 112 true).run Tryd.prog w = .ok (.tuple #[.iface 92 v, .bool true]) w := run_typeAssert_hasB Tryd.underlying112 (by kernel_rfl) v xT w
theorem methA_acts (n : Nat) (v : Value) (w : World) : (Go.method (n + 1) 92 v "As").run Tryd.prog w = .ok (79, v) w := by kernel_rfl

theorem toV_same (v : Value) (xT : TypeId) (w : World) : (Instr.typeAssert (.iface 50 v) xT 50 true).run Tryd.prog w = .ok (.tuple #[v, .bool true]) w := by
  simp [Instr.typeAssert, run_underlying Tryd.underlying50]
theorem toV_zero : (Tryd.prog.info? 50).map (·.zero) = some (some (.agg #[.int .i64 0])) := by kernel_rfl
theorem toV_other (t : TypeId) (v : Value) (xT : TypeId) (ht : t ≠ 50) (w : World) : (Instr.typeAssert (.iface t v) xT 50 true).run Tryd.prog w = .ok (.tuple #[.agg #[.int .i64 0], .bool false]) w := by
  obtain ⟨i, hi, hz⟩ := Option.map_eq_some_iff.1 toV_zero
  simp [Instr.typeAssert, run_underlying Tryd.underlying50, ht, zeroValue, typeInfo, hi, hz]

theorem toW_same (v : Value) (xT : TypeId) (w : World) : (Instr.typeAssert (.iface 61 v) xT 61 true).run Tryd.prog w = .ok (.tuple #[v, .bool true]) w := by
  simp [Instr.typeAssert, run_underlying Tryd.underlying61]
theorem toW_zero : (Tryd.prog.info? 61).map (·.zero) = some (some (.pointer none)) := by kernel_rfl
theorem toW_other (t : TypeId) (v : Value) (xT : TypeId) (ht : t ≠ 61) (w : World) : (Instr.typeAssert (.iface t v) xT 61 true).run Tryd.prog w = .ok (.tuple #[.pointer none, .bool false]) w := by
  obtain ⟨i, hi, hz⟩ := Option.map_eq_some_iff.1 toW_zero
  simp [Instr.typeAssert, run_underlying Tryd.underlying61, ht, zeroValue, typeInfo, hi, hz]

theorem toM_same (v : Value) (xT : TypeId) (w : World) : (Instr.typeAssert (.iface 84 v) xT 84 true).run Tryd.prog w = .ok (.tuple #[v, .bool true]) w := by
  simp [Instr.typeAssert, run_underlying Tryd.underlying84]
theorem toM_zero : (Tryd.prog.info? 84).map (·.zero) = some (some (.pointer none)) := by kernel_rfl
theorem toM_other (t : TypeId) (v : Value) (xT : TypeId) (ht : t ≠ 84) (w : World) : (Instr.typeAssert (.iface t v) xT 84 true).run Tryd.prog w = .ok (.tuple #[.pointer none, .bool false]) w := by
  obtain ⟨i, hi, hz⟩ := Option.map_eq_some_iff.1 toM_zero
  simp [Instr.typeAssert, run_underlying Tryd.underlying84, ht, zeroValue, typeInfo, hi, hz]

end Go.Proofs.YtccoeajjomfmnaaDoor
