/-
  The contracts of the methods Unwrap, and which errors have them.
  Conditions: none.
-/
import Derived.Test.YtlobmpfgimdpgaaEql
import Derived.Test.YtlobmpfgimdpgaaMem2
import Derived.Deep.QuietTactic
import Derived.BigQuiet
namespace Go.Proofs.Ytlobmpfgimdpgaa
open Go.RowKit Go.Lib

theorem unwrap_wrap (b : Nat) (x : Value) (w : World) (h : w.cell? ⟨b, 1, none⟩ = some x) : Calls Try.prog 74 #[.pointer (some ⟨b, 0, none⟩)] w fun e w' => e = .returned x ∧ w = w' := by
  go_enter Try.func74, Try.ntmps74
  go_wp2
  go_ret
  exact ⟨rfl, rfl⟩

theorem unwrap_alike (b : Nat) (x : Value) (w : World) (h : w.cell? ⟨b, 1, none⟩ = some x) : Calls Try.prog 78 #[.pointer (some ⟨b, 0, none⟩)] w fun e w' => e = .returned x ∧ w = w' := by
  go_enter Try.func78, Try.ntmps78
  go_wp2
  go_ret
  exact ⟨rfl, rfl⟩

theorem unwrap_acts (b : Nat) (x : Value) (w : World) (h : w.cell? ⟨b, 1, none⟩ = some x) : Calls Try.prog 80 #[.pointer (some ⟨b, 0, none⟩)] w fun e w' => e = .returned x ∧ w = w' := by
  go_enter Try.func80, Try.ntmps80
  go_wp2
  go_ret
  exact ⟨rfl, rfl⟩

theorem unwrap_many (b : Nat) (x : Value) (w : World) (h : w.cell? ⟨b, 1, none⟩ = some x) : Calls Try.prog 76 #[.pointer (some ⟨b, 0, none⟩)] w fun e w' => e = .returned x ∧ w = w' := by
  go_enter Try.func76, Try.ntmps76
  go_wp2
  go_ret
  exact ⟨rfl, rfl⟩

theorem unwrap_join (b : Nat) (x : Value) (w : World) (h : w.cell? ⟨b, 0, none⟩ = some x) : Calls Try.prog 83 #[.pointer (some ⟨b, 0, none⟩)] w fun e w' => e = .returned x ∧ w = w' := by
  go_enter Try.func83, Try.ntmps83
  go_wp2
  go_ret
  exact ⟨rfl, rfl⟩

theorem one_text (v : Value) (xT : TypeId) (w : World) : (Instr.typeAssert (.iface 101 v) xT 108 true).run Try.prog w = .ok (.tuple #[.nilIface, .bool false]) w := run_typeAssert_lacksB Try.underlying108 (by kernel_rfl) (by kernel_rfl) v xT w
theorem one_value (v : Value) (xT : TypeId) (w : World) : (Instr.typeAssert (.iface 85 v) xT 108 true).run Try.prog w = .ok (.tuple #[.nilIface, .bool false]) w := run_typeAssert_lacksB Try.underlying108 (by kernel_rfl) (by kernel_rfl) v xT w
theorem one_list (v : Value) (xT : TypeId) (w : World) : (Instr.typeAssert (.iface 87 v) xT 108 true).run Try.prog w = .ok (.tuple #[.nilIface, .bool false]) w := run_typeAssert_lacksB Try.underlying108 (by kernel_rfl) (by kernel_rfl) v xT w
theorem one_wrap (v : Value) (xT : TypeId) (w : World) : (Instr.typeAssert (.iface 88 v) xT 108 true).run Try.prog w = .ok (.tuple #[.iface 88 v, .bool true]) w := run_typeAssert_hasB Try.underlying108 (by kernel_rfl) v xT w
theorem one_many (v : Value) (xT : TypeId) (w : World) : (Instr.typeAssert (.iface 92 v) xT 108 true).run Try.prog w = .ok (.tuple #[.nilIface, .bool false]) w := run_typeAssert_lacksB Try.underlying108 (by kernel_rfl) (by kernel_rfl) v xT w
theorem one_join (v : Value) (xT : TypeId) (w : World) : (Instr.typeAssert (.iface 104 v) xT 108 true).run Try.prog w = .ok (.tuple #[.nilIface, .bool false]) w := run_typeAssert_lacksB Try.underlying108 (by kernel_rfl) (by kernel_rfl) v xT w
theorem one_alike (v : Value) (xT : TypeId) (w : World) : (Instr.typeAssert (.iface 96 v) xT 108 true).run Try.prog w = .ok (.tuple #[.iface 96 v, .bool true]) w := run_typeAssert_hasB Try.underlying108 (by kernel_rfl) v xT w
theorem one_acts (v : Value) (xT : TypeId) (w : World) : (Instr.typeAssert (.iface 99 v) xT 108 true).run Try.prog w = .ok (.tuple #[.iface 99 v, .bool true]) w := run_typeAssert_hasB Try.underlying108 (by kernel_rfl) v xT w
theorem many_text (v : Value) (xT : TypeId) (w : World) : (Instr.typeAssert (.iface 101 v) xT 76 true).run Try.prog w = .ok (.tuple #[.nilIface, .bool false]) w := run_typeAssert_lacksB Try.underlying76 (by kernel_rfl) (by kernel_rfl) v xT w
theorem many_value (v : Value) (xT : TypeId) (w : World) : (Instr.typeAssert (.iface 85 v) xT 76 true).run Try.prog w = .ok (.tuple #[.nilIface, .bool false]) w := run_typeAssert_lacksB Try.underlying76 (by kernel_rfl) (by kernel_rfl) v xT w
theorem many_list (v : Value) (xT : TypeId) (w : World) : (Instr.typeAssert (.iface 87 v) xT 76 true).run Try.prog w = .ok (.tuple #[.nilIface, .bool false]) w := run_typeAssert_lacksB Try.underlying76 (by kernel_rfl) (by kernel_rfl) v xT w
theorem many_wrap (v : Value) (xT : TypeId) (w : World) : (Instr.typeAssert (.iface 88 v) xT 76 true).run Try.prog w = .ok (.tuple #[.nilIface, .bool false]) w := run_typeAssert_lacksB Try.underlying76 (by kernel_rfl) (by kernel_rfl) v xT w
theorem many_many (v : Value) (xT : TypeId) (w : World) : (Instr.typeAssert (.iface 92 v) xT 76 true).run Try.prog w = .ok (.tuple #[.iface 92 v, .bool true]) w := run_typeAssert_hasB Try.underlying76 (by kernel_rfl) v xT w
theorem many_join (v : Value) (xT : TypeId) (w : World) : (Instr.typeAssert (.iface 104 v) xT 76 true).run Try.prog w = .ok (.tuple #[.iface 104 v, .bool true]) w := run_typeAssert_hasB Try.underlying76 (by kernel_rfl) v xT w
theorem many_alike (v : Value) (xT : TypeId) (w : World) : (Instr.typeAssert (.iface 96 v) xT 76 true).run Try.prog w = .ok (.tuple #[.nilIface, .bool false]) w := run_typeAssert_lacksB Try.underlying76 (by kernel_rfl) (by kernel_rfl) v xT w
theorem many_acts (v : Value) (xT : TypeId) (w : World) : (Instr.typeAssert (.iface 99 v) xT 76 true).run Try.prog w = .ok (.tuple #[.nilIface, .bool false]) w := run_typeAssert_lacksB Try.underlying76 (by kernel_rfl) (by kernel_rfl) v xT w
theorem methU_wrap (n : Nat) (v : Value) (w : World) : (Go.method (n + 1) 88 v "Unwrap").run Try.prog w = .ok (74, v) w := by kernel_rfl
theorem methU_many (n : Nat) (v : Value) (w : World) : (Go.method (n + 1) 92 v "Unwrap").run Try.prog w = .ok (76, v) w := by kernel_rfl
theorem methU_join (n : Nat) (v : Value) (w : World) : (Go.method (n + 1) 104 v "Unwrap").run Try.prog w = .ok (83, v) w := by kernel_rfl
theorem methU_alike (n : Nat) (v : Value) (w : World) : (Go.method (n + 1) 96 v "Unwrap").run Try.prog w = .ok (78, v) w := by kernel_rfl
theorem methU_acts (n : Nat) (v : Value) (w : World) : (Go.method (n + 1) 99 v "Unwrap").run Try.prog w = .ok (80, v) w := by kernel_rfl
end Go.Proofs.Ytlobmpfgimdpgaa
