/-
  The contracts of the methods Unwrap, and which errors have them.
  Conditions: none.
-/
import Derived.Test.YtccoeajjomfmnaaDoorEql
import Derived.Test.YtccoeajjomfmnaaDoorMem2
import Derived.Deep.QuietTactic
import Derived.BigQuiet
namespace Go.Proofs.YtccoeajjomfmnaaDoor
open Go.RowKit Go.Lib

theorem unwrap_wrap (b : Nat) (x : Value) (w : World) (h : w.cell? ⟨b, 1, none⟩ = some x) : Calls Tryd.prog 73 #[.pointer (some ⟨b, 0, none⟩)] w fun e w' => e = .returned x ∧ w = w' := by
  go_enter Tryd.func73, Tryd.ntmps73
  go_wp2
  go_ret
  exact ⟨rfl, rfl⟩

theorem unwrap_alike (b : Nat) (x : Value) (w : World) (h : w.cell? ⟨b, 1, none⟩ = some x) : Calls Tryd.prog 78 #[.pointer (some ⟨b, 0, none⟩)] w fun e w' => e = .returned x ∧ w = w' := by
  go_enter Tryd.func78, Tryd.ntmps78
  go_wp2
  go_ret
  exact ⟨rfl, rfl⟩

theorem unwrap_acts (b : Nat) (x : Value) (w : World) (h : w.cell? ⟨b, 1, none⟩ = some x) : Calls Tryd.prog 81 #[.pointer (some ⟨b, 0, none⟩)] w fun e w' => e = .returned x ∧ w = w' := by
  go_enter Tryd.func81, Tryd.ntmps81
  go_wp2
  go_ret
  exact ⟨rfl, rfl⟩

theorem unwrap_many (b : Nat) (x : Value) (w : World) (h : w.cell? ⟨b, 1, none⟩ = some x) : Calls Tryd.prog 76 #[.pointer (some ⟨b, 0, none⟩)] w fun e w' => e = .returned x ∧ w = w' := by
  go_enter Tryd.func76, Tryd.ntmps76
  go_wp2
  go_ret
  exact ⟨rfl, rfl⟩

theorem unwrap_join (b : Nat) (x : Value) (w : World) (h : w.cell? ⟨b, 0, none⟩ = some x) : Calls Tryd.prog 87 #[.pointer (some ⟨b, 0, none⟩)] w fun e w' => e = .returned x ∧ w = w' := by
  go_enter Tryd.func87, Tryd.ntmps87
  go_wp2
  go_ret
  exact ⟨rfl, rfl⟩

theorem one_text (v : Value) (xT : TypeId) (w : World) : (Instr.typeAssert (.iface 119 v) xT 115 true).run Tryd.prog w = .ok (.tuple #[.nilIface, .bool false]) w := run_typeAssert_lacksB Tryd.underlying115 (by kernel_rfl) (by kernel_rfl) v xT w
theorem one_value (v : Value) (xT : TypeId) (w : World) : (Instr.typeAssert (.iface 50 v) xT 115 true).run Tryd.prog w = .ok (.tuple #[.nilIface, .bool false]) w := run_typeAssert_lacksB Tryd.underlying115 (by kernel_rfl) (by kernel_rfl) v xT w
theorem one_list (v : Value) (xT : TypeId) (w : World) : (Instr.typeAssert (.iface 80 v) xT 115 true).run Tryd.prog w = .ok (.tuple #[.nilIface, .bool false]) w := run_typeAssert_lacksB Tryd.underlying115 (by kernel_rfl) (by kernel_rfl) v xT w
theorem one_wrap (v : Value) (xT : TypeId) (w : World) : (Instr.typeAssert (.iface 61 v) xT 115 true).run Tryd.prog w = .ok (.tuple #[.iface 61 v, .bool true]) w := run_typeAssert_hasB Tryd.underlying115 (by kernel_rfl) v xT w
theorem one_many (v : Value) (xT : TypeId) (w : World) : (Instr.typeAssert (.iface 84 v) xT 115 true).run Tryd.prog w = .ok (.tuple #[.nilIface, .bool false]) w := run_typeAssert_lacksB Tryd.underlying115 (by kernel_rfl) (by kernel_rfl) v xT w
theorem one_join (v : Value) (xT : TypeId) (w : World) : (Instr.typeAssert (.iface 122 v) xT 115 true).run Tryd.prog w = .ok (.tuple #[.nilIface, .bool false]) w := run_typeAssert_lacksB Tryd.underlying115 (by kernel_rfl) (by kernel_rfl) v xT w
theorem one_alike (v : Value) (xT : TypeId) (w : World) : (Instr.typeAssert (.iface 89 v) xT 115 true).run Tryd.prog w = .ok (.tuple #[.iface 89 v, .bool true]) w := run_typeAssert_hasB Tryd.underlying115 (by kernel_rfl) v xT w
theorem one_acts (v : Value) (xT : TypeId) (w : World) : (Instr.typeAssert (.iface 92 v) xT 115 true).run Tryd.prog w = .ok (.tuple #[.iface 92 v, .bool true]) w := run_typeAssert_hasB Tryd.underlying115 (by kernel_rfl) v xT w
theorem many_text (v : Value) (xT : TypeId) (w : World) : (Instr.typeAssert (.iface 119 v) xT 117 true).run Tryd.prog w = .ok (.tuple #[.nilIface, .bool false]) w := run_typeAssert_lacksB Tryd.underlying117 (by kernel_rfl) (by kernel_rfl) v xT w
theorem many_value (v : Value) (xT : TypeId) (w : World) : (Instr.typeAssert (.iface 50 v) xT 117 true).run Tryd.prog w = .ok (.tuple #[.nilIface, .bool false]) w := run_typeAssert_lacksB Tryd.underlying117 (by kernel_rfl) (by kernel_rfl) v xT w
theorem many_list (v : Value) (xT : TypeId) (w : World) : (Instr.typeAssert (.iface 80 v) xT 117 true).run Tryd.prog w = .ok (.tuple #[.nilIface, .bool false]) w := run_typeAssert_lacksB Tryd.underlying117 (by kernel_rfl) (by kernel_rfl) v xT w
theorem many_wrap (v : Value) (xT : TypeId) (w : World) : (Instr.typeAssert (.iface 61 v) xT 117 true).run Tryd.prog w = .ok (.tuple #[.nilIface, .bool false]) w := run_typeAssert_lacksB Tryd.underlying117 (by kernel_rfl) (by kernel_rfl) v xT w
theorem many_many (v : Value) (xT : TypeId) (w : World) : (Instr.typeAssert (.iface 84 v) xT 117 true).run Tryd.prog w = .ok (.tuple #[.iface 84 v, .bool true]) w := run_typeAssert_hasB Tryd.underlying117 (by kernel_rfl) v xT w
theorem many_join (v : Value) (xT : TypeId) (w : World) : (Instr.typeAssert (.iface 122 v) xT 117 true).run Tryd.prog w = .ok (.tuple #[.iface 122 v, .bool true]) w := run_typeAssert_hasB Tryd.underlying117 (by kernel_rfl) v xT w
theorem many_alike (v : Value) (xT : TypeId) (w : World) : (Instr.typeAssert (.iface 89 v) xT 117 true).run Tryd.prog w = .ok (.tuple #[.nilIface, .bool false]) w := run_typeAssert_lacksB Tryd.underlying117 (by kernel_rfl) (by kernel_rfl) v xT w
theorem many_acts (v : Value) (xT : TypeId) (w : World) : (Instr.typeAssert (.iface 92 v) xT 117 true).run Tryd.prog w = .ok (.tuple #[.nilIface, .bool false]) w := run_typeAssert_lacksB Tryd.underlying117 (by kernel_rfl) (by kernel_rfl) v xT w
theorem methU_wrap (n : Nat) (v : Value) (w : World) : (Go.method (n + 1) 61 v "Unwrap").run Tryd.prog w = .ok (73, v) w := by kernel_rfl
theorem methU_many (n : Nat) (v : Value) (w : World) : (Go.method (n + 1) 84 v "Unwrap").run Tryd.prog w = .ok (76, v) w := by kernel_rfl
theorem methU_join (n : Nat) (v : Value) (w : World) : (Go.method (n + 1) 122 v "Unwrap").run Tryd.prog w = .ok (87, v) w := by kernel_rfl
theorem methU_alike (n : Nat) (v : Value) (w : World) : (Go.method (n + 1) 89 v "Unwrap").run Tryd.prog w = .ok (78, v) w := by kernel_rfl
theorem methU_acts (n : Nat) (v : Value) (w : World) : (Go.method (n + 1) 92 v "Unwrap").run Tryd.prog w = .ok (81, v) w := by kernel_rfl
end Go.Proofs.YtccoeajjomfmnaaDoor
