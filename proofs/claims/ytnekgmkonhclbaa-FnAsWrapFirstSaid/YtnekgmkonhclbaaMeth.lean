/-
  The contracts of the methods Unwrap, and which errors have them.
  Conditions: none.
-/
import Derived.Test.YtnekgmkonhclbaaEql
import Derived.Test.YtnekgmkonhclbaaMem2
import Derived.Deep.QuietTactic
import Derived.BigQuiet
namespace Go.Proofs.Ytnekgmkonhclbaa
open Go.RowKit Go.Lib

theorem unwrap_wrap (b : Nat) (x : Value) (w : World) (h : w.cell? ⟨b, 1, none⟩ = some x) : Calls Try.prog 75 #[.pointer (some ⟨b, 0, none⟩)] w fun e w' => e = .returned x ∧ w = w' := by
  go_enter Try.func75, Try.ntmps75
  go_wp2
  go_ret
  exact ⟨rfl, rfl⟩

theorem unwrap_alike (b : Nat) (x : Value) (w : World) (h : w.cell? ⟨b, 1, none⟩ = some x) : Calls Try.prog 79 #[.pointer (some ⟨b, 0, none⟩)] w fun e w' => e = .returned x ∧ w = w' := by
  go_enter Try.func79, Try.ntmps79
  go_wp2
  go_ret
  exact ⟨rfl, rfl⟩

theorem unwrap_acts (b : Nat) (x : Value) (w : World) (h : w.cell? ⟨b, 1, none⟩ = some x) : Calls Try.prog 82 #[.pointer (some ⟨b, 0, none⟩)] w fun e w' => e = .returned x ∧ w = w' := by
  go_enter Try.func82, Try.ntmps82
  go_wp2
  go_ret
  exact ⟨rfl, rfl⟩

theorem unwrap_many (b : Nat) (x : Value) (w : World) (h : w.cell? ⟨b, 1, none⟩ = some x) : Calls Try.prog 73 #[.pointer (some ⟨b, 0, none⟩)] w fun e w' => e = .returned x ∧ w = w' := by
  go_enter Try.func73, Try.ntmps73
  go_wp2
  go_ret
  exact ⟨rfl, rfl⟩

theorem unwrap_join (b : Nat) (x : Value) (w : World) (h : w.cell? ⟨b, 0, none⟩ = some x) : Calls Try.prog 85 #[.pointer (some ⟨b, 0, none⟩)] w fun e w' => e = .returned x ∧ w = w' := by
  go_enter Try.func85, Try.ntmps85
  go_wp2
  go_ret
  exact ⟨rfl, rfl⟩

theorem one_text (v : Value) (xT : TypeId) (w : World) : (Instr.typeAssert (.iface 114 v) xT 110 true).run Try.prog w = .ok (.tuple #[.nilIface, .bool false]) w := run_typeAssert_lacksB Try.underlying110 (by kernel_rfl) (by kernel_rfl) v xT w
theorem one_value (v : Value) (xT : TypeId) (w : World) : (Instr.typeAssert (.iface 52 v) xT 110 true).run Try.prog w = .ok (.tuple #[.nilIface, .bool false]) w := run_typeAssert_lacksB Try.underlying110 (by kernel_rfl) (by kernel_rfl) v xT w
theorem one_list (v : Value) (xT : TypeId) (w : World) : (Instr.typeAssert (.iface 80 v) xT 110 true).run Try.prog w = .ok (.tuple #[.nilIface, .bool false]) w := run_typeAssert_lacksB Try.underlying110 (by kernel_rfl) (by kernel_rfl) v xT w
theorem one_wrap (v : Value) (xT : TypeId) (w : World) : (Instr.typeAssert (.iface 66 v) xT 110 true).run Try.prog w = .ok (.tuple #[.iface 66 v, .bool true]) w := run_typeAssert_hasB Try.underlying110 (by kernel_rfl) v xT w
theorem one_many (v : Value) (xT : TypeId) (w : World) : (Instr.typeAssert (.iface 62 v) xT 110 true).run Try.prog w = .ok (.tuple #[.nilIface, .bool false]) w := run_typeAssert_lacksB Try.underlying110 (by kernel_rfl) (by kernel_rfl) v xT w
theorem one_join (v : Value) (xT : TypeId) (w : World) : (Instr.typeAssert (.iface 117 v) xT 110 true).run Try.prog w = .ok (.tuple #[.nilIface, .bool false]) w := run_typeAssert_lacksB Try.underlying110 (by kernel_rfl) (by kernel_rfl) v xT w
theorem one_alike (v : Value) (xT : TypeId) (w : World) : (Instr.typeAssert (.iface 88 v) xT 110 true).run Try.prog w = .ok (.tuple #[.iface 88 v, .bool true]) w := run_typeAssert_hasB Try.underlying110 (by kernel_rfl) v xT w
theorem one_acts (v : Value) (xT : TypeId) (w : World) : (Instr.typeAssert (.iface 91 v) xT 110 true).run Try.prog w = .ok (.tuple #[.iface 91 v, .bool true]) w := run_typeAssert_hasB Try.underlying110 (by kernel_rfl) v xT w
theorem many_text (v : Value) (xT : TypeId) (w : World) : (Instr.typeAssert (.iface 114 v) xT 112 true).run Try.prog w = .ok (.tuple #[.nilIface, .bool false]) w := run_typeAssert_lacksB Try.underlying112 (by kernel_rfl) (by kernel_rfl) v xT w
theorem many_value (v : Value) (xT : TypeId) (w : World) : (Instr.typeAssert (.iface 52 v) xT 112 true).run Try.prog w = .ok (.tuple #[.nilIface, .bool false]) w := run_typeAssert_lacksB Try.underlying112 (by kernel_rfl) (by kernel_rfl) v xT w
theorem many_list (v : Value) (xT : TypeId) (w : World) : (Instr.typeAssert (.iface 80 v) xT 112 true).run Try.prog w = .ok (.tuple #[.nilIface, .bool false]) w := run_typeAssert_lacksB Try.underlying112 (by kernel_rfl) (by kernel_rfl) v xT w
theorem many_wrap (v : Value) (xT : TypeId) (w : World) : (Instr.typeAssert (.iface 66 v) xT 112 true).run Try.prog w = .ok (.tuple #[.nilIface, .bool false]) w := run_typeAssert_lacksB Try.underlying112 (by kernel_rfl) (by kernel_rfl) v xT w
theorem many_many (v : Value) (xT : TypeId) (w : World) : (Instr.typeAssert (.iface 62 v) xT 112 true).run Try.prog w = .ok (.tuple #[.iface 62 v, .bool true]) w := run_typeAssert_hasB Try.underlying112 (by kernel_rfl) v xT w
theorem many_join (v : Value) (xT : TypeId) (w : World) : (Instr.typeAssert (.iface 117 v) xT 112 true).run Try.prog w = .ok (.tuple #[.iface 117 v, .bool true]) w := run_typeAssert_hasB Try.underlying112 (by kernel_rfl) v xT w
theorem many_alike (v : Value) (xT : TypeId) (w : World) : (Instr.typeAssert (.iface 88 v) xT 112 true).run Try.prog w = .ok (.tuple #[.nilIface, .bool false]) w := run_typeAssert_lacksB Try.underlying112 (by kernel_rfl) (by kernel_rfl) v xT w
theorem many_acts (v : Value) (xT : TypeId) (w : World) : (Instr.typeAssert (.iface 91 v) xT 112 true).run Try.prog w = .ok (.tuple #[.nilIface, .bool false]) w := run_typeAssert_lacksB Try.underlying112 (by kernel_rfl) (by kernel_rfl) v xT w
theorem methU_wrap (n : Nat) (v : Value) (w : World) : (Go.method (n + 1) 66 v "Unwrap").run Try.prog w = .ok (75, v) w := by kernel_rfl
theorem methU_many (n : Nat) (v : Value) (w : World) : (Go.method (n + 1) 62 v "Unwrap").run Try.prog w = .ok (73, v) w := by kernel_rfl
theorem methU_join (n : Nat) (v : Value) (w : World) : (Go.method (n + 1) 117 v "Unwrap").run Try.prog w = .ok (85, v) w := by kernel_rfl
theorem methU_alike (n : Nat) (v : Value) (w : World) : (Go.method (n + 1) 88 v "Unwrap").run Try.prog w = .ok (79, v) w := by kernel_rfl
theorem methU_acts (n : Nat) (v : Value) (w : World) : (Go.method (n + 1) 91 v "Unwrap").run Try.prog w = .ok (82, v) w := by kernel_rfl
end Go.Proofs.Ytnekgmkonhclbaa
