/-
  The contract of errors.Is over the errors of nodes.
  Conditions: the target can be compared.
-/
import Derived.Test.YtlbmmeloggnogaaIsW
import Derived.RowKitTokens
namespace Go.Proofs.Ytlbmmeloggnogaa
open Go.RowKit Go.Lib Go.Extern.Stop Go.Stop Go.Extern

theorem isMethodComparable (n : Nat) (v : Value) (w : World) : (Go.method (n + 1) 97 v "Comparable").run Try.prog w = .ok (79, v) w := by kernel_rfl
theorem isTypeOf_text (v : Value) (w : World) : (Extern.ReflectliteType.typeOf #[.iface 104 v]).run Try.prog w = .ok (.iface 97 (.agg #[.pointer (some ⟨0, 104, none⟩)])) w := by kernel_rfl
theorem isComp_text (w : World) : (callFunc 79 #[.agg #[.pointer (some ⟨0, 104, none⟩)]]).run Try.prog w = .ok (.value (.bool true)) w := by kernel_rfl
theorem isTypeOf_value (v : Value) (w : World) : (Extern.ReflectliteType.typeOf #[.iface 59 v]).run Try.prog w = .ok (.iface 97 (.agg #[.pointer (some ⟨0, 59, none⟩)])) w := by kernel_rfl
theorem isComp_value (w : World) : (callFunc 79 #[.agg #[.pointer (some ⟨0, 59, none⟩)]]).run Try.prog w = .ok (.value (.bool true)) w := by kernel_rfl
theorem isTypeOf_wrap (v : Value) (w : World) : (Extern.ReflectliteType.typeOf #[.iface 76 v]).run Try.prog w = .ok (.iface 97 (.agg #[.pointer (some ⟨0, 76, none⟩)])) w := by kernel_rfl
theorem isComp_wrap (w : World) : (callFunc 79 #[.agg #[.pointer (some ⟨0, 76, none⟩)]]).run Try.prog w = .ok (.value (.bool true)) w := by kernel_rfl
theorem isTypeOf_many (v : Value) (w : World) : (Extern.ReflectliteType.typeOf #[.iface 80 v]).run Try.prog w = .ok (.iface 97 (.agg #[.pointer (some ⟨0, 80, none⟩)])) w := by kernel_rfl
theorem isComp_many (w : World) : (callFunc 79 #[.agg #[.pointer (some ⟨0, 80, none⟩)]]).run Try.prog w = .ok (.value (.bool true)) w := by kernel_rfl
theorem isTypeOf_join (v : Value) (w : World) : (Extern.ReflectliteType.typeOf #[.iface 107 v]).run Try.prog w = .ok (.iface 97 (.agg #[.pointer (some ⟨0, 107, none⟩)])) w := by kernel_rfl
theorem isComp_join (w : World) : (callFunc 79 #[.agg #[.pointer (some ⟨0, 107, none⟩)]]).run Try.prog w = .ok (.value (.bool true)) w := by kernel_rfl
theorem isTypeOf_alike (v : Value) (w : World) : (Extern.ReflectliteType.typeOf #[.iface 85 v]).run Try.prog w = .ok (.iface 97 (.agg #[.pointer (some ⟨0, 85, none⟩)])) w := by kernel_rfl
theorem isComp_alike (w : World) : (callFunc 79 #[.agg #[.pointer (some ⟨0, 85, none⟩)]]).run Try.prog w = .ok (.value (.bool true)) w := by kernel_rfl
theorem isTypeOf_acts (v : Value) (w : World) : (Extern.ReflectliteType.typeOf #[.iface 88 v]).run Try.prog w = .ok (.iface 97 (.agg #[.pointer (some ⟨0, 88, none⟩)])) w := by kernel_rfl
theorem isComp_acts (w : World) : (callFunc 79 #[.agg #[.pointer (some ⟨0, 88, none⟩)]]).run Try.prog w = .ok (.value (.bool true)) w := by kernel_rfl

set_option maxRecDepth 100000 in
set_option maxHeartbeats 1000000 in
theorem is_left (t : TypeId) (u : Value) (w : World) : Calls Try.prog 30 #[.nilIface, .iface t u] w fun e w' => e = .returned (.bool false) ∧ w = w' := by
  have hn := run_eql_iface_nil_left (P := Try.prog) w t u Try.underlying52
  go_enter Try.func30, Try.ntmps30
  go_wp2_with fail
  go_ret
  exact ⟨rfl, rfl⟩
set_option maxRecDepth 100000 in
set_option maxHeartbeats 1000000 in
theorem is_right (t : TypeId) (u : Value) (w : World) : Calls Try.prog 30 #[.iface t u, .nilIface] w fun e w' => e = .returned (.bool false) ∧ w = w' := by
  go_enter Try.func30, Try.ntmps30
  go_wp2_with fail
  go_ret
  exact ⟨rfl, rfl⟩

set_option maxRecDepth 100000 in
set_option maxHeartbeats 1000000 in
theorem isFrom_text (t : TypeId) (u v : Value) (w : World) (b : Bool) (h : Calls Try.prog 39 #[.iface t u, .iface 104 v, .bool true] w fun e w' => e = .returned (.bool b) ∧ Below w.heap.size w w') :
    Calls Try.prog 30 #[.iface t u, .iface 104 v] w fun e w' => e = .returned (.bool b) ∧ Below w.heap.size w w' := by
  have h8 := @run_callFunc_extern Try.prog 38 _ Extern.ReflectliteType.typeOf Try.func38 (by kernel_rfl) (by kernel_rfl) (by kernel_rfl) (by kernel_rfl)
  have tT := isTypeOf_text
  have mR := isMethodComparable
  have cT := isComp_text
  have HC := Lib.hid h
  clear h
  go_enter Try.func30, Try.ntmps30
  go_wp2_with fail
  refine HC.out.mono ?_
  rintro e w' ⟨rfl, hb⟩
  go_wp2_with fail
  go_ret
  exact ⟨rfl, hb⟩

set_option maxRecDepth 100000 in
set_option maxHeartbeats 1000000 in
theorem isFrom_value (t : TypeId) (u v : Value) (w : World) (b : Bool) (h : Calls Try.prog 39 #[.iface t u, .iface 59 v, .bool true] w fun e w' => e = .returned (.bool b) ∧ Below w.heap.size w w') :
    Calls Try.prog 30 #[.iface t u, .iface 59 v] w fun e w' => e = .returned (.bool b) ∧ Below w.heap.size w w' := by
  have h8 := @run_callFunc_extern Try.prog 38 _ Extern.ReflectliteType.typeOf Try.func38 (by kernel_rfl) (by kernel_rfl) (by kernel_rfl) (by kernel_rfl)
  have tT := isTypeOf_value
  have mR := isMethodComparable
  have cT := isComp_value
  have HC := Lib.hid h
  clear h
  go_enter Try.func30, Try.ntmps30
  go_wp2_with fail
  refine HC.out.mono ?_
  rintro e w' ⟨rfl, hb⟩
  go_wp2_with fail
  go_ret
  exact ⟨rfl, hb⟩

set_option maxRecDepth 100000 in
set_option maxHeartbeats 1000000 in
theorem isFrom_wrap (t : TypeId) (u v : Value) (w : World) (b : Bool) (h : Calls Try.prog 39 #[.iface t u, .iface 76 v, .bool true] w fun e w' => e = .returned (.bool b) ∧ Below w.heap.size w w') :
    Calls Try.prog 30 #[.iface t u, .iface 76 v] w fun e w' => e = .returned (.bool b) ∧ Below w.heap.size w w' := by
  have h8 := @run_callFunc_extern Try.prog 38 _ Extern.ReflectliteType.typeOf Try.func38 (by kernel_rfl) (by kernel_rfl) (by kernel_rfl) (by kernel_rfl)
  have tT := isTypeOf_wrap
  have mR := isMethodComparable
  have cT := isComp_wrap
  have HC := Lib.hid h
  clear h
  go_enter Try.func30, Try.ntmps30
  go_wp2_with fail
  refine HC.out.mono ?_
  rintro e w' ⟨rfl, hb⟩
  go_wp2_with fail
  go_ret
  exact ⟨rfl, hb⟩

set_option maxRecDepth 100000 in
set_option maxHeartbeats 1000000 in
theorem isFrom_many (t : TypeId) (u v : Value) (w : World) (b : Bool) (h : Calls Try.prog 39 #[.iface t u, .iface 80 v, .bool true] w fun e w' => e = .returned (.bool b) ∧ Below w.heap.size w w') :
    Calls Try.prog 30 #[.iface t u, .iface 80 v] w fun e w' => e = .returned (.bool b) ∧ Below w.heap.size w w' := by
  have h8 := @run_callFunc_extern Try.prog 38 _ Extern.ReflectliteType.typeOf Try.func38 (by kernel_rfl) (by kernel_rfl) (by kernel_rfl) (by kernel_rfl)
  have tT := isTypeOf_many
  have mR := isMethodComparable
  have cT := isComp_many
  have HC := Lib.hid h
  clear h
  go_enter Try.func30, Try.ntmps30
  go_wp2_with fail
  refine HC.out.mono ?_
  rintro e w' ⟨rfl, hb⟩
  go_wp2_with fail
  go_ret
  exact ⟨rfl, hb⟩

set_option maxRecDepth 100000 in
set_option maxHeartbeats 1000000 in
theorem isFrom_join (t : TypeId) (u v : Value) (w : World) (b : Bool) (h : Calls Try.prog 39 #[.iface t u, .iface 107 v, .bool true] w fun e w' => e = .returned (.bool b) ∧ Below w.heap.size w w') :
    Calls Try.prog 30 #[.iface t u, .iface 107 v] w fun e w' => e = .returned (.bool b) ∧ Below w.heap.size w w' := by
  have h8 := @run_callFunc_extern Try.prog 38 _ Extern.ReflectliteType.typeOf Try.func38 (by kernel_rfl) (by kernel_rfl) (by kernel_rfl) (by kernel_rfl)
  have tT := isTypeOf_join
  have mR := isMethodComparable
  have cT := isComp_join
  have HC := Lib.hid h
  clear h
  go_enter Try.func30, Try.ntmps30
  go_wp2_with fail
  refine HC.out.mono ?_
  rintro e w' ⟨rfl, hb⟩
  go_wp2_with fail
  go_ret
  exact ⟨rfl, hb⟩

set_option maxRecDepth 100000 in
set_option maxHeartbeats 1000000 in
theorem isFrom_alike (t : TypeId) (u v : Value) (w : World) (b : Bool) (h : Calls Try.prog 39 #[.iface t u, .iface 85 v, .bool true] w fun e w' => e = .returned (.bool b) ∧ Below w.heap.size w w') :
    Calls Try.prog 30 #[.iface t u, .iface 85 v] w fun e w' => e = .returned (.bool b) ∧ Below w.heap.size w w' := by
  have h8 := @run_callFunc_extern Try.prog 38 _ Extern.ReflectliteType.typeOf Try.func38 (by kernel_rfl) (by kernel_rfl) (by kernel_rfl) (by kernel_rfl)
  have tT := isTypeOf_alike
  have mR := isMethodComparable
  have cT := isComp_alike
  have HC := Lib.hid h
  clear h
  go_enter Try.func30, Try.ntmps30
  go_wp2_with fail
  refine HC.out.mono ?_
  rintro e w' ⟨rfl, hb⟩
  go_wp2_with fail
  go_ret
  exact ⟨rfl, hb⟩

set_option maxRecDepth 100000 in
set_option maxHeartbeats 1000000 in
theorem isFrom_acts (t : TypeId) (u v : Value) (w : World) (b : Bool) (h : Calls Try.prog 39 #[.iface t u, .iface 88 v, .bool true] w fun e w' => e = .returned (.bool b) ∧ Below w.heap.size w w') :
    Calls Try.prog 30 #[.iface t u, .iface 88 v] w fun e w' => e = .returned (.bool b) ∧ Below w.heap.size w w' := by
  have h8 := @run_callFunc_extern Try.prog 38 _ Extern.ReflectliteType.typeOf Try.func38 (by kernel_rfl) (by kernel_rfl) (by kernel_rfl) (by kernel_rfl)
  have tT := isTypeOf_acts
  have mR := isMethodComparable
  have cT := isComp_acts
  have HC := Lib.hid h
  clear h
  go_enter Try.func30, Try.ntmps30
  go_wp2_with fail
  refine HC.out.mono ?_
  rintro e w' ⟨rfl, hb⟩
  go_wp2_with fail
  go_ret
  exact ⟨rfl, hb⟩

end Go.Proofs.Ytlbmmeloggnogaa
