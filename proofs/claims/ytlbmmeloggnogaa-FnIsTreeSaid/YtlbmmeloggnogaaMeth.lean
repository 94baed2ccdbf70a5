/-
  The contracts of the methods Unwrap, and which errors have them.
  Conditions: none.
-/
import Derived.Test.YtlbmmeloggnogaaEql
import Derived.Test.YtlbmmeloggnogaaMem2
import Derived.Deep.QuietTactic
import Derived.BigQuiet
namespace Go.Proofs.Ytlbmmeloggnogaa
open Go.RowKit Go.Lib

theorem unwrap_wrap (b : Nat) (x : Value) (w : World) (h : w.cell? ⟨b, 1, none⟩ = some x) : Calls Try.prog 68 #[.pointer (some ⟨b, 0, none⟩)] w fun e w' => e = .returned x ∧ w = w' := by
  go_enter Try.func68, Try.ntmps68
  go_wp2
  go_ret
  exact ⟨rfl, rfl⟩

theorem unwrap_alike (b : Nat) (x : Value) (w : World) (h : w.cell? ⟨b, 1, none⟩ = some x) : Calls Try.prog 73 #[.pointer (some ⟨b, 0, none⟩)] w fun e w' => e = .returned x ∧ w = w' := by
  go_enter Try.func73, Try.ntmps73
  go_wp2
  go_ret
  exact ⟨rfl, rfl⟩

theorem unwrap_acts (b : Nat) (x : Value) (w : World) (h : w.cell? ⟨b, 1, none⟩ = some x) : Calls Try.prog 75 #[.pointer (some ⟨b, 0, none⟩)] w fun e w' => e = .returned x ∧ w = w' := by
  go_enter Try.func75, Try.ntmps75
  go_wp2
  go_ret
  exact ⟨rfl, rfl⟩

theorem unwrap_many (b : Nat) (x : Value) (w : World) (h : w.cell? ⟨b, 1, none⟩ = some x) : Calls Try.prog 70 #[.pointer (some ⟨b, 0, none⟩)] w fun e w' => e = .returned x ∧ w = w' := by
  go_enter Try.func70, Try.ntmps70
  go_wp2
  go_ret
  exact ⟨rfl, rfl⟩

theorem unwrap_join (b : Nat) (x : Value) (w : World) (h : w.cell? ⟨b, 0, none⟩ = some x) : Calls Try.prog 90 #[.pointer (some ⟨b, 0, none⟩)] w fun e w' => e = .returned x ∧ w = w' := by
  go_enter Try.func90, Try.ntmps90
  go_wp2
  go_ret
  exact ⟨rfl, rfl⟩

theorem one_text (v : Value) (xT : TypeId) (w : World) : (Instr.typeAssert (.iface 104 v) xT 93 true).run Try.prog w = .ok (.tuple #[.nilIface, .bool false]) w := run_typeAssert_lacksB Try.underlying93 (by kernel_rfl) (by kernel_rfl) v xT w
theorem one_value (v : Value) (xT : TypeId) (w : World) : (Instr.typeAssert (.iface 59 v) xT 93 true).run Try.prog w = .ok (.tuple #[.nilIface, .bool false]) w := run_typeAssert_lacksB Try.underlying93 (by kernel_rfl) (by kernel_rfl) v xT w
theorem one_list (v : Value) (xT : TypeId) (w : World) : (Instr.typeAssert (.iface 75 v) xT 93 true).run Try.prog w = .ok (.tuple #[.nilIface, .bool false]) w := run_typeAssert_lacksB Try.underlying93 (by kernel_rfl) (by kernel_rfl) v xT w
theorem one_wrap (v : Value) (xT : TypeId) (w : World) : (Instr.typeAssert (.iface 76 v) xT 93 true).run Try.prog w = .ok (.tuple #[.iface 76 v, .bool true]) w := run_typeAssert_hasB Try.underlying93 (by kernel_rfl) v xT w
theorem one_many (v : Value) (xT : TypeId) (w : World) : (Instr.typeAssert (.iface 80 v) xT 93 true).run Try.prog w = .ok (.tuple #[.nilIface, .bool false]) w := run_typeAssert_lacksB Try.underlying93 (by kernel_rfl) (by kernel_rfl) v xT w
theorem one_join (v : Value) (xT : TypeId) (w : World) : (Instr.typeAssert (.iface 107 v) xT 93 true).run Try.prog w = .ok (.tuple #[.nilIface, .bool false]) w := run_typeAssert_lacksB Try.underlying93 (by kernel_rfl) (by kernel_rfl) v xT w
theorem one_alike (v : Value) (xT : TypeId) (w : World) : (Instr.typeAssert (.iface 85 v) xT 93 true).run Try.prog w = .ok (.tuple #[.iface 85 v, .bool true]) w := run_typeAssert_hasB Try.underlying93 (by kernel_rfl) v xT w
theorem one_acts (v : Value) (xT : TypeId) (w : World) : (Instr.typeAssert (.iface 88 v) xT 93 true).run Try.prog w = .ok (.tuple #[.iface 88 v, .bool true]) w := run_typeAssert_hasB Try.underlying93 (by kernel_rfl) v xT w
theorem many_text (v : Value) (xT : TypeId) (w : World) : (Instr.typeAssert (.iface 104 v) xT 102 true).run Try.prog w = .ok (.tuple #[.nilIface, .bool false]) w := run_typeAssert_lacksB Try.underlying102 (by kernel_rfl) (by kernel_rfl) v xT w
theorem many_value (v : Value) (xT : TypeId) (w : World) : (Instr.typeAssert (.iface 59 v) xT 102 true).run Try.prog w = .ok (.tuple #[.nilIface, .bool false]) w := run_typeAssert_lacksB Try.underlying102 (by kernel_rfl) (by kernel_rfl) v xT w
theorem many_list (v : Value) (xT : TypeId) (w : World) : (Instr.typeAssert (.iface 75 v) xT 102 true).run Try.prog w = .ok (.tuple #[.nilIface, .bool false]) w := run_typeAssert_lacksB Try.underlying102 (by kernel_rfl) (by kernel_rfl) v xT w
theorem many_wrap (v : Value) (xT : TypeId) (w : World) : (Instr.typeAssert (.iface 76 v) xT 102 true).run Try.prog w = .ok (.tuple #[.nilIface, .bool false]) w := run_typeAssert_lacksB Try.underlying102 (by kernel_rfl) (by kernel_rfl) v xT w
theorem many_many (v : Value) (xT : TypeId) (w : World) : (Instr.typeAssert (.iface 80 v) xT 102 true).run Try.prog w = .ok (.tuple #[.iface 80 v, .bool true]) w := run_typeAssert_hasB Try.underlying102 (by kernel_rfl) v xT w
theorem many_join (v : Value) (xT : TypeId) (w : World) : (Instr.typeAssert (.iface 107 v) xT 102 true).run Try.prog w = .ok (.tuple #[.iface 107 v, .bool true]) w := run_typeAssert_hasB Try.underlying102 (by kernel_rfl) v xT w
theorem many_alike (v : Value) (xT : TypeId) (w : World) : (Instr.typeAssert (.iface 85 v) xT 102 true).run Try.prog w = .ok (.tuple #[.nilIface, .bool false]) w := run_typeAssert_lacksB Try.underlying102 (by kernel_rfl) (by kernel_rfl) v xT w
theorem many_acts (v : Value) (xT : TypeId) (w : World) : (Instr.typeAssert (.iface 88 v) xT 102 true).run Try.prog w = .ok (.tuple #[.nilIface, .bool false]) w := run_typeAssert_lacksB Try.underlying102 (by kernel_rfl) (by kernel_rfl) v xT w
theorem methU_wrap (n : Nat) (v : Value) (w : World) : (Go.method (n + 1) 76 v "Unwrap").run Try.prog w = .ok (68, v) w := by kernel_rfl
theorem methU_many (n : Nat) (v : Value) (w : World) : (Go.method (n + 1) 80 v "Unwrap").run Try.prog w = .ok (70, v) w := by kernel_rfl
theorem methU_join (n : Nat) (v : Value) (w : World) : (Go.method (n + 1) 107 v "Unwrap").run Try.prog w = .ok (90, v) w := by kernel_rfl
theorem methU_alike (n : Nat) (v : Value) (w : World) : (Go.method (n + 1) 85 v "Unwrap").run Try.prog w = .ok (73, v) w := by kernel_rfl
theorem methU_acts (n : Nat) (v : Value) (w : World) : (Go.method (n + 1) 88 v "Unwrap").run Try.prog w = .ok (75, v) w := by kernel_rfl
end Go.Proofs.Ytlbmmeloggnogaa
