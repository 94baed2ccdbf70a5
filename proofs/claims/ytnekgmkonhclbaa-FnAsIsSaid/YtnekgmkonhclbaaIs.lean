/-
  The contract of errors.Is over the errors of nodes.
  Conditions: the target can be compared.
-/
import Derived.Test.YtnekgmkonhclbaaIsW
import Derived.RowKitTokens
namespace Go.Proofs.Ytnekgmkonhclbaa
open Go.RowKit Go.Lib Go.Extern.Stop Go.Stop Go.Extern

theorem isMethodComparable (n : Nat) (v : Value) (w : World) : (Go.method (n + 1) 121 v "Comparable").run Try.prog w = .ok (89, v) w := by kernel_rfl
theorem isTypeOf_text (v : Value) (w : World) : (Extern.ReflectliteType.typeOf #[.iface 114 v]).run Try.prog w = .ok (.iface 121 (.agg #[.pointer (some ⟨0, 114, none⟩)])) w := by kernel_rfl
theorem isComp_text (w : World) : (callFunc 89 #[.agg #[.pointer (some ⟨0, 114, none⟩)]]).run Try.prog w = .ok (.value (.bool true)) w := by kernel_rfl
theorem isTypeOf_value (v : Value) (w : World) : (Extern.ReflectliteType.typeOf #[.iface 52 v]).run Try.prog w = .ok (.iface 121 (.agg #[.pointer (some ⟨0, 52, none⟩)])) w := by kernel_rfl
theorem isComp_value (w : World) : (callFunc 89 #[.agg #[.pointer (some ⟨0, 52, none⟩)]]).run Try.prog w = .ok (.value (.bool true)) w := by kernel_rfl
theorem isTypeOf_wrap (v : Value) (w : World) : (Extern.ReflectliteType.typeOf #[.iface 66 v]).run Try.prog w = .ok (.iface 121 (.agg #[.pointer (some ⟨0, 66, none⟩)])) w := by kernel_rfl
theorem isComp_wrap (w : World) : (callFunc 89 #[.agg #[.pointer (some ⟨0, 66, none⟩)]]).run Try.prog w = .ok (.value (.bool true)) w := by kernel_rfl
theorem isTypeOf_many (v : Value) (w : World) : (Extern.ReflectliteType.typeOf #[.iface 62 v]).run Try.prog w = .ok (.iface 121 (.agg #[.pointer (some ⟨0, 62, none⟩)])) w := by kernel_rfl
theorem isComp_many (w : World) : (callFunc 89 #[.agg #[.pointer (some ⟨0, 62, none⟩)]]).run Try.prog w = .ok (.value (.bool true)) w := by kernel_rfl
theorem isTypeOf_join (v : Value) (w : World) : (Extern.ReflectliteType.typeOf #[.iface 117 v]).run Try.prog w = .ok (.iface 121 (.agg #[.pointer (some ⟨0, 117, none⟩)])) w := by kernel_rfl
theorem isComp_join (w : World) : (callFunc 89 #[.agg #[.pointer (some ⟨0, 117, none⟩)]]).run Try.prog w = .ok (.value (.bool true)) w := by kernel_rfl
theorem isTypeOf_alike (v : Value) (w : World) : (Extern.ReflectliteType.typeOf #[.iface 88 v]).run Try.prog w = .ok (.iface 121 (.agg #[.pointer (some ⟨0, 88, none⟩)])) w := by kernel_rfl
theorem isComp_alike (w : World) : (callFunc 89 #[.agg #[.pointer (some ⟨0, 88, none⟩)]]).run Try.prog w = .ok (.value (.bool true)) w := by kernel_rfl
theorem isTypeOf_acts (v : Value) (w : World) : (Extern.ReflectliteType.typeOf #[.iface 91 v]).run Try.prog w = .ok (.iface 121 (.agg #[.pointer (some ⟨0, 91, none⟩)])) w := by kernel_rfl
theorem isComp_acts (w : World) : (callFunc 89 #[.agg #[.pointer (some ⟨0, 91, none⟩)]]).run Try.prog w = .ok (.value (.bool true)) w := by kernel_rfl

set_option maxRecDepth 100000 in
set_option maxHeartbeats 1000000 in
theorem is_left (t : TypeId) (u : Value) (w : World) : Calls Try.prog 38 #[.nilIface, .iface t u] w fun e w' => e = .returned (.bool false) ∧ w = w' := by
  have hn := run_eql_iface_nil_left (P := Try.prog) w t u Try.underlying56
  go_enter Try.func38, Try.ntmps38
  go_wp2_with fail
  go_ret
  exact ⟨rfl, rfl⟩
set_option maxRecDepth 100000 in
set_option maxHeartbeats 1000000 in
theorem is_right (t : TypeId) (u : Value) (w : World) : Calls Try.prog 38 #[.iface t u, .nilIface] w fun e w' => e = .returned (.bool false) ∧ w = w' := by
  go_enter Try.func38, Try.ntmps38
  go_wp2_with fail
  go_ret
  exact ⟨rfl, rfl⟩

set_option maxRecDepth 100000 in
set_option maxHeartbeats 1000000 in
theorem isFrom_text (t : TypeId) (u v : Value) (w : World) (b : Bool) (h : Calls Try.prog 49 #[.iface t u, .iface 114 v, .bool true] w fun e w' => e = .returned (.bool b) ∧ Below w.heap.size w w') :
    Calls Try.prog 38 #[.iface t u, .iface 114 v] w fun e w' => e = .returned (.bool b) ∧ Below w.heap.size w w' := by
  have h8 := @run_callFunc_extern Try.prog 48 _ Extern.ReflectliteType.typeOf Try.func48 (by kernel_rfl) (by kernel_rfl) (by kernel_rfl) (by kernel_rfl)
  have tT := isTypeOf_text
  have mR := isMethodComparable
  have cT := isComp_text
  have HC := Lib.hid h
  clear h
  go_enter Try.func38, Try.ntmps38
  go_wp2_with fail
  refine HC.out.mono ?_
  rintro e w' ⟨rfl, hb⟩
  go_wp2_with fail
  go_ret
  exact ⟨rfl, hb⟩

set_option maxRecDepth 100000 in
set_option maxHeartbeats 1000000 in
theorem isFrom_value (t : TypeId) (u v : Value) (w : World) (b : Bool) (h : Calls Try.prog 49 #[.iface t u, .iface 52 v, .bool true] w fun e w' => e = .returned (.bool b) ∧ Below w.heap.size w w') :
    Calls Try.prog 38 #[.iface t u, .iface 52 v] w fun e w' => e = .returned (.bool b) ∧ Below w.heap.size w w' := by
  have h8 := @run_callFunc_extern Try.prog 48 _ Extern.ReflectliteType.typeOf Try.func48 (by kernel_rfl) (by kernel_rfl) (by kernel_rfl) (by kernel_rfl)
  have tT := isTypeOf_value
  have mR := isMethodComparable
  have cT := isComp_value
  have HC := Lib.hid h
  clear h
  go_enter Try.func38, Try.ntmps38
  go_wp2_with fail
  refine HC.out.mono ?_
  rintro e w' ⟨rfl, hb⟩
  go_wp2_with fail
  go_ret
  exact ⟨rfl, hb⟩

set_option maxRecDepth 100000 in
set_option maxHeartbeats 1000000 in
theorem isFrom_wrap (t : TypeId) (u v : Value) (w : World) (b : Bool) (h : Calls Try.prog 49 #[.iface t u, .iface 66 v, .bool true] w fun e w' => e = .returned (.bool b) ∧ Below w.heap.size w w') :
    Calls Try.prog 38 #[.iface t u, .iface 66 v] w fun e w' => e = .returned (.bool b) ∧ Below w.heap.size w w' := by
  have h8 := @run_callFunc_extern Try.prog 48 _ Extern.ReflectliteType.typeOf Try.func48 (by kernel_rfl) (by kernel_rfl) (by kernel_rfl) (by kernel_rfl)
  have tT := isTypeOf_wrap
  have mR := isMethodComparable
  have cT := isComp_wrap
  have HC := Lib.hid h
  clear h
  go_enter Try.func38, Try.ntmps38
  go_wp2_with fail
  refine HC.out.mono ?_
  rintro e w' ⟨rfl, hb⟩
  go_wp2_with fail
  go_ret
  exact ⟨rfl, hb⟩

set_option maxRecDepth 100000 in
set_option maxHeartbeats 1000000 in
theorem isFrom_many (t : TypeId) (u v : Value) (w : World) (b : Bool) (h : Calls Try.prog 49 #[.iface t u, .iface 62 v, .bool true] w fun e w' => e = .returned (.bool b) ∧ Below w.heap.size w w') :
    Calls Try.prog 38 #[.iface t u, .iface 62 v] w fun e w' => e = .returned (.bool b) ∧ Below w.heap.size w w' := by
  have h8 := @run_callFunc_extern Try.prog 48 _ Extern.ReflectliteType.typeOf Try.func48 (by kernel_rfl) (by kernel_rfl) (by kernel_rfl) (by kernel_rfl)
  have tT := isTypeOf_many
  have mR := isMethodComparable
  have cT := isComp_many
  have HC := Lib.hid h
  clear h
  go_enter Try.func38, Try.ntmps38
  go_wp2_with fail
  refine HC.out.mono ?_
  rintro e w' ⟨rfl, hb⟩
  go_wp2_with fail
  go_ret
  exact ⟨rfl, hb⟩

set_option maxRecDepth 100000 in
set_option maxHeartbeats 1000000 in
theorem isFrom_join (t : TypeId) (u v : Value) (w : World) (b : Bool) (h : Calls Try.prog 49 #[.iface t u, .iface 117 v, .bool true] w fun e w' => e = .returned (.bool b) ∧ Below w.heap.size w w') :
    Calls Try.prog 38 #[.iface t u, .iface 117 v] w fun e w' => e = .returned (.bool b) ∧ Below w.heap.size w w' := by
  have h8 := @run_callFunc_extern Try.prog 48 _ Extern.ReflectliteType.typeOf Try.func48 (by kernel_rfl) (by kernel_rfl) (by kernel_rfl) (by kernel_rfl)
  have tT := isTypeOf_join
  have mR := isMethodComparable
  have cT := isComp_join
  have HC := Lib.hid h
  clear h
  go_enter Try.func38, Try.ntmps38
  go_wp2_with fail
  refine HC.out.mono ?_
  rintro e w' ⟨rfl, hb⟩
  go_wp2_with fail
  go_ret
  exact ⟨rfl, hb⟩

set_option maxRecDepth 100000 in
set_option maxHeartbeats 1000000 in
theorem isFrom_alike (t : TypeId) (u v : Value) (w : World) (b : Bool) (h : Calls Try.prog 49 #[.iface t u, .iface 88 v, .bool true] w fun e w' => e = .returned (.bool b) ∧ Below w.heap.size w w') :
    Calls Try.prog 38 #[.iface t u, .iface 88 v] w fun e w' => e = .returned (.bool b) ∧ Below w.heap.size w w' := by
  have h8 := @run_callFunc_extern Try.prog 48 _ Extern.ReflectliteType.typeOf Try.func48 (by kernel_rfl) (by kernel_rfl) (by kernel_rfl) (by kernel_rfl)
  have tT := isTypeOf_alike
  have mR := isMethodComparable
  have cT := isComp_alike
  have HC := Lib.hid h
  clear h
  go_enter Try.func38, Try.ntmps38
  go_wp2_with fail
  refine HC.out.mono ?_
  rintro e w' ⟨rfl, hb⟩
  go_wp2_with fail
  go_ret
  exact ⟨rfl, hb⟩

set_option maxRecDepth 100000 in
set_option maxHeartbeats 1000000 in
theorem isFrom_acts (t : TypeId) (u v : Value) (w : World) (b : Bool) (h : Calls Try.prog 49 #[.iface t u, .iface 91 v, .bool true] w fun e w' => e = .returned (.bool b) ∧ Below w.heap.size w w') :
    Calls Try.prog 38 #[.iface t u, .iface 91 v] w fun e w' => e = .returned (.bool b) ∧ Below w.heap.size w w' := by
  have h8 := @run_callFunc_extern Try.prog 48 _ Extern.ReflectliteType.typeOf Try.func48 (by kernel_rfl) (by kernel_rfl) (by kernel_rfl) (by kernel_rfl)
  have tT := isTypeOf_acts
  have mR := isMethodComparable
  have cT := isComp_acts
  have HC := Lib.hid h
  clear h
  go_enter Try.func38, Try.ntmps38
  go_wp2_with fail
  refine HC.out.mono ?_
  rintro e w' ⟨rfl, hb⟩
  go_wp2_with fail
  go_ret
  exact ⟨rfl, hb⟩

end Go.Proofs.Ytnekgmkonhclbaa
