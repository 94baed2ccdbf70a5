/-
  Closed facts on the entries for internal/reflectlite that errors.As comes to, at the types of this program.
  Conditions: none.
-/
import Derived.Test.YtccoeajjomfmnaaDoorMeth
import Derived.LaidEql
import Derived.Stop.Asserts
import Derived.RowKitTokens
namespace Go.Proofs.YtccoeajjomfmnaaDoor
open Go.RowKit Go.Extern.Stop Go.Stop Go.Extern

theorem rlm (z : Sem Value) (f : TypeId → Addr → Nat → Nat → Sem Value) (v : Value) :
    ReflectliteValue.method z f #[v] = (do match ← ReflectliteValue.parts v with | none => z | some (t, a, fl) => f t a fl (fl % 32)) := rfl
theorem rls (v x : Value) : ReflectliteValue.set #[v, x] = (do
    let (some (dst, a, fl), some (src, b, _)) := (← ReflectliteValue.parts v, ← ReflectliteValue.parts x)
      | unsupported (.noEntry "extern/(internal/reflectlite.Value).Set.zeroValue")
    if fl / ReflectliteValue.flagAddr % 2 == 0 then unsupported (.noEntry "extern/(internal/reflectlite.Value).Set.unaddressable")
    let val ← loadVar src b
    if ← Rtype.directlyAssignable dst src then storeVar dst a val
    else if ← Rtype.implements dst src then
      if (← Rtype.kind src) == 20 then
        match val with
        | .nilIface => unsupported (.noEntry "extern/reflectlite: a nil value of one interface type handed on as a value of another")
        | _ => storeVar dst a val
      else storeVar dst a (.iface src val)
    else panicString ("reflectlite.Set: value of type " ++ (← Rtype.spelt src) ++ " is not assignable to type " ++ (← Rtype.spelt dst))
    pure (.tuple #[])) := rfl

theorem typeOf_text (v : Value) (w : World) : (ReflectliteType.typeOf #[.iface 119 v]).run Tryd.prog w = .ok (.iface 126 (.agg #[.pointer (some ⟨1, 119, none⟩)])) w := by kernel_rfl
theorem typeOf_value (v : Value) (w : World) : (ReflectliteType.typeOf #[.iface 50 v]).run Tryd.prog w = .ok (.iface 126 (.agg #[.pointer (some ⟨1, 50, none⟩)])) w := by kernel_rfl
theorem typeOf_list (v : Value) (w : World) : (ReflectliteType.typeOf #[.iface 80 v]).run Tryd.prog w = .ok (.iface 126 (.agg #[.pointer (some ⟨1, 80, none⟩)])) w := by kernel_rfl
theorem typeOf_wrap (v : Value) (w : World) : (ReflectliteType.typeOf #[.iface 61 v]).run Tryd.prog w = .ok (.iface 126 (.agg #[.pointer (some ⟨1, 61, none⟩)])) w := by kernel_rfl
theorem typeOf_many (v : Value) (w : World) : (ReflectliteType.typeOf #[.iface 84 v]).run Tryd.prog w = .ok (.iface 126 (.agg #[.pointer (some ⟨1, 84, none⟩)])) w := by kernel_rfl
theorem typeOf_join (v : Value) (w : World) : (ReflectliteType.typeOf #[.iface 122 v]).run Tryd.prog w = .ok (.iface 126 (.agg #[.pointer (some ⟨1, 122, none⟩)])) w := by kernel_rfl
theorem typeOf_alike (v : Value) (w : World) : (ReflectliteType.typeOf #[.iface 89 v]).run Tryd.prog w = .ok (.iface 126 (.agg #[.pointer (some ⟨1, 89, none⟩)])) w := by kernel_rfl
theorem typeOf_acts (v : Value) (w : World) : (ReflectliteType.typeOf #[.iface 92 v]).run Tryd.prog w = .ok (.iface 126 (.agg #[.pointer (some ⟨1, 92, none⟩)])) w := by kernel_rfl
theorem methKind (n : Nat) (h : Value) (w : World) : (Go.method (n + 3) 126 (.agg #[h]) "Kind").run Tryd.prog w = .ok (66, h) w := by kernel_rfl
theorem methElem (n : Nat) (h : Value) (w : World) : (Go.method (n + 3) 126 (.agg #[h]) "Elem").run Tryd.prog w = .ok (91, .agg #[h]) w := by kernel_rfl
theorem methImplements (n : Nat) (h : Value) (w : World) : (Go.method (n + 3) 126 (.agg #[h]) "Implements").run Tryd.prog w = .ok (92, .agg #[h]) w := by kernel_rfl
theorem methAssignableTo (n : Nat) (h : Value) (w : World) : (Go.method (n + 3) 126 (.agg #[h]) "AssignableTo").run Tryd.prog w = .ok (89, .agg #[h]) w := by kernel_rfl
theorem assignV_text (w : World) : (ReflectliteType.relation "AssignableTo" ReflectliteType.assignableTo #[.agg #[.pointer (some ⟨1, 119, none⟩)], .iface 126 (.agg #[.pointer (some ⟨1, 50, none⟩)])]).run Tryd.prog w = .ok (.bool false) w := by kernel_rfl
theorem assignV_value (w : World) : (ReflectliteType.relation "AssignableTo" ReflectliteType.assignableTo #[.agg #[.pointer (some ⟨1, 50, none⟩)], .iface 126 (.agg #[.pointer (some ⟨1, 50, none⟩)])]).run Tryd.prog w = .ok (.bool true) w := by kernel_rfl
theorem assignV_list (w : World) : (ReflectliteType.relation "AssignableTo" ReflectliteType.assignableTo #[.agg #[.pointer (some ⟨1, 80, none⟩)], .iface 126 (.agg #[.pointer (some ⟨1, 50, none⟩)])]).run Tryd.prog w = .ok (.bool false) w := by kernel_rfl
theorem assignV_wrap (w : World) : (ReflectliteType.relation "AssignableTo" ReflectliteType.assignableTo #[.agg #[.pointer (some ⟨1, 61, none⟩)], .iface 126 (.agg #[.pointer (some ⟨1, 50, none⟩)])]).run Tryd.prog w = .ok (.bool false) w := by kernel_rfl
theorem assignV_many (w : World) : (ReflectliteType.relation "AssignableTo" ReflectliteType.assignableTo #[.agg #[.pointer (some ⟨1, 84, none⟩)], .iface 126 (.agg #[.pointer (some ⟨1, 50, none⟩)])]).run Tryd.prog w = .ok (.bool false) w := by kernel_rfl
theorem assignV_join (w : World) : (ReflectliteType.relation "AssignableTo" ReflectliteType.assignableTo #[.agg #[.pointer (some ⟨1, 122, none⟩)], .iface 126 (.agg #[.pointer (some ⟨1, 50, none⟩)])]).run Tryd.prog w = .ok (.bool false) w := by kernel_rfl
theorem assignV_alike (w : World) : (ReflectliteType.relation "AssignableTo" ReflectliteType.assignableTo #[.agg #[.pointer (some ⟨1, 89, none⟩)], .iface 126 (.agg #[.pointer (some ⟨1, 50, none⟩)])]).run Tryd.prog w = .ok (.bool false) w := by kernel_rfl
theorem assignV_acts (w : World) : (ReflectliteType.relation "AssignableTo" ReflectliteType.assignableTo #[.agg #[.pointer (some ⟨1, 92, none⟩)], .iface 126 (.agg #[.pointer (some ⟨1, 50, none⟩)])]).run Tryd.prog w = .ok (.bool false) w := by kernel_rfl
theorem assignW_text (w : World) : (ReflectliteType.relation "AssignableTo" ReflectliteType.assignableTo #[.agg #[.pointer (some ⟨1, 119, none⟩)], .iface 126 (.agg #[.pointer (some ⟨1, 61, none⟩)])]).run Tryd.prog w = .ok (.bool false) w := by kernel_rfl
theorem assignW_value (w : World) : (ReflectliteType.relation "AssignableTo" ReflectliteType.assignableTo #[.agg #[.pointer (some ⟨1, 50, none⟩)], .iface 126 (.agg #[.pointer (some ⟨1, 61, none⟩)])]).run Tryd.prog w = .ok (.bool false) w := by kernel_rfl
theorem assignW_list (w : World) : (ReflectliteType.relation "AssignableTo" ReflectliteType.assignableTo #[.agg #[.pointer (some ⟨1, 80, none⟩)], .iface 126 (.agg #[.pointer (some ⟨1, 61, none⟩)])]).run Tryd.prog w = .ok (.bool false) w := by kernel_rfl
theorem assignW_wrap (w : World) : (ReflectliteType.relation "AssignableTo" ReflectliteType.assignableTo #[.agg #[.pointer (some ⟨1, 61, none⟩)], .iface 126 (.agg #[.pointer (some ⟨1, 61, none⟩)])]).run Tryd.prog w = .ok (.bool true) w := by kernel_rfl
theorem assignW_many (w : World) : (ReflectliteType.relation "AssignableTo" ReflectliteType.assignableTo #[.agg #[.pointer (some ⟨1, 84, none⟩)], .iface 126 (.agg #[.pointer (some ⟨1, 61, none⟩)])]).run Tryd.prog w = .ok (.bool false) w := by kernel_rfl
theorem assignW_join (w : World) : (ReflectliteType.relation "AssignableTo" ReflectliteType.assignableTo #[.agg #[.pointer (some ⟨1, 122, none⟩)], .iface 126 (.agg #[.pointer (some ⟨1, 61, none⟩)])]).run Tryd.prog w = .ok (.bool false) w := by kernel_rfl
theorem assignW_alike (w : World) : (ReflectliteType.relation "AssignableTo" ReflectliteType.assignableTo #[.agg #[.pointer (some ⟨1, 89, none⟩)], .iface 126 (.agg #[.pointer (some ⟨1, 61, none⟩)])]).run Tryd.prog w = .ok (.bool false) w := by kernel_rfl
theorem assignW_acts (w : World) : (ReflectliteType.relation "AssignableTo" ReflectliteType.assignableTo #[.agg #[.pointer (some ⟨1, 92, none⟩)], .iface 126 (.agg #[.pointer (some ⟨1, 61, none⟩)])]).run Tryd.prog w = .ok (.bool false) w := by kernel_rfl
theorem valueOfV (t : Addr) (w : World) : (ReflectliteValue.unpack (.iface 60 (.pointer (some t)))).run Tryd.prog w = .ok (.agg #[.pointer (some ⟨1, 60, none⟩), .pointer (some ⟨w.heap.size, 0, none⟩), .int .u64 150]) (w.alloc (.cells #[.pointer (some t)] 60)) := by kernel_rfl
theorem typeV (a : Addr) (w : World) : (ReflectliteValue.methodAny (ReflectliteValue.valueError "reflectlite.Value.Type" 0) (fun t _ _ _ => ReflectliteType.toType t) #[.agg #[.pointer (some ⟨1, 60, none⟩), .pointer (some a), .int .u64 150]]).run Tryd.prog w = .ok (.iface 126 (.agg #[.pointer (some ⟨1, 60, none⟩)])) w := by kernel_rfl
theorem kindPV (w : World) : ((ReflectliteType.abiMethod fun t => (fun a : Nat => Value.int IntKind.u8 (a : Int)) <$> Rtype.kind t) #[.pointer (some ⟨1, 60, none⟩)]).run Tryd.prog w = .ok (.int .u8 22) w := by kernel_rfl
theorem kindEV (w : World) : ((ReflectliteType.abiMethod fun t => (fun a : Nat => Value.int IntKind.u8 (a : Int)) <$> Rtype.kind t) #[.pointer (some ⟨1, 50, none⟩)]).run Tryd.prog w = .ok (.int .u8 25) w := by kernel_rfl
theorem partsV (a : Addr) (w : World) : (ReflectliteValue.parts (.agg #[.pointer (some ⟨1, 60, none⟩), .pointer (some a), .int .u64 150])).run Tryd.prog w = .ok (some (60, a, 150)) w := by kernel_rfl
theorem isNilV (a p : Addr) (W : World) (ha : W.cell? a = some (.pointer (some p))) :
    (ReflectliteValue.method (ReflectliteValue.valueError "reflectlite.Value.IsNil" 0) ReflectliteValue.isNil #[.agg #[.pointer (some ⟨1, 60, none⟩), .pointer (some a), .int .u64 150]]).run Tryd.prog W = .ok (.bool false) W := by
  rw [rlm]
  simp only [Sem.run_bind, partsV, Result.andThen]
  simp [ReflectliteValue.isNil, loadVar, isAgg, underlying, Tryd.underlying60, ha, Result.andThen]
theorem elemV (w : World) : (ReflectliteType.method ReflectliteType.elem #[.agg #[.pointer (some ⟨1, 60, none⟩)]]).run Tryd.prog w = .ok (.iface 126 (.agg #[.pointer (some ⟨1, 50, none⟩)])) w := by kernel_rfl
theorem implementsV (w : World) : (ReflectliteType.relation "Implements" ReflectliteType.implements_ #[.agg #[.pointer (some ⟨1, 50, none⟩)], .iface 126 (.agg #[.pointer (some ⟨1, 54, none⟩)])]).run Tryd.prog w = .ok (.bool true) w := by kernel_rfl
theorem elemOfV (w : World) : (Rtype.elem? 60).run Tryd.prog w = .ok (some 50) w := by kernel_rfl
theorem mkEV (p : Addr) (w : World) : (ReflectliteValue.mk 50 p ReflectliteValue.flagAddr).run Tryd.prog w = .ok (.agg #[.pointer (some ⟨1, 50, none⟩), .pointer (some p), .int .u64 409]) w := by kernel_rfl
theorem elemVV (a p : Addr) (W : World) (ha : W.cell? a = some (.pointer (some p))) :
    (ReflectliteValue.method (ReflectliteValue.valueError "reflectlite.Value.Elem" 0) ReflectliteValue.elem #[.agg #[.pointer (some ⟨1, 60, none⟩), .pointer (some a), .int .u64 150]]).run Tryd.prog W = .ok (.agg #[.pointer (some ⟨1, 50, none⟩), .pointer (some p), .int .u64 409]) W := by
  rw [rlm]
  simp only [Sem.run_bind, partsV, Result.andThen]
  simp [ReflectliteValue.elem, loadVar, isAgg, underlying, Tryd.underlying60, ha, Result.andThen, elemOfV, mkEV]
theorem partsAV (a : Addr) (w : World) : (ReflectliteValue.parts (.agg #[.pointer (some ⟨1, 50, none⟩), .pointer (some a), .int .u64 409])).run Tryd.prog w = .ok (some (50, a, 409)) w := by kernel_rfl
theorem partsEV (a : Addr) (w : World) : (ReflectliteValue.parts (.agg #[.pointer (some ⟨1, 50, none⟩), .pointer (some a), .int .u64 153])).run Tryd.prog w = .ok (some (50, a, 153)) w := by kernel_rfl
theorem directV (w : World) : (Rtype.directlyAssignable 50 50).run Tryd.prog w = .ok true w := by kernel_rfl
theorem sizeV (w : World) : (sizeOf 50).run Tryd.prog w = .ok 1 w := by kernel_rfl
theorem valueOfEV (key : Int) (w : World) : (ReflectliteValue.unpack (.iface 50 (.agg #[.int .i64 key]))).run Tryd.prog w = .ok (.agg #[.pointer (some ⟨1, 50, none⟩), .pointer (some ⟨w.heap.size, 0, none⟩), .int .u64 153]) (w.alloc (.cells #[.int .i64 key] 50)) := by kernel_rfl
theorem setV (ta b : Addr) (key : Int) (old : Value) (W : World) (hb : W.cell? b = some (.int .i64 key)) (ht : W.cell? ta = some old) (hf : W.frozen? ta = false) :
    (ReflectliteValue.set #[.agg #[.pointer (some ⟨1, 50, none⟩), .pointer (some ta), .int .u64 409], .agg #[.pointer (some ⟨1, 50, none⟩), .pointer (some b), .int .u64 153]]).run Tryd.prog W = .ok (.tuple #[]) (W.setCell ta (.int .i64 key)) := by
  rw [rls]
  simp only [Sem.run_bind, partsAV, partsEV, Result.andThen]
  simp [ReflectliteValue.flagAddr, loadVar, isAgg, underlying, Tryd.underlying50, hb, Result.andThen, directV, storeVar, Value.cells, storeCells, loadCells, loadCellsFrom, Addr.add]
  rw [run_store Tryd.prog W ta _ _ (by rfl)]
  simp [ht, hf]
theorem valueOfW (t : Addr) (w : World) : (ReflectliteValue.unpack (.iface 65 (.pointer (some t)))).run Tryd.prog w = .ok (.agg #[.pointer (some ⟨1, 65, none⟩), .pointer (some ⟨w.heap.size, 0, none⟩), .int .u64 150]) (w.alloc (.cells #[.pointer (some t)] 65)) := by kernel_rfl
theorem typeW (a : Addr) (w : World) : (ReflectliteValue.methodAny (ReflectliteValue.valueError "reflectlite.Value.Type" 0) (fun t _ _ _ => ReflectliteType.toType t) #[.agg #[.pointer (some ⟨1, 65, none⟩), .pointer (some a), .int .u64 150]]).run Tryd.prog w = .ok (.iface 126 (.agg #[.pointer (some ⟨1, 65, none⟩)])) w := by kernel_rfl
theorem kindPW (w : World) : ((ReflectliteType.abiMethod fun t => (fun a : Nat => Value.int IntKind.u8 (a : Int)) <$> Rtype.kind t) #[.pointer (some ⟨1, 65, none⟩)]).run Tryd.prog w = .ok (.int .u8 22) w := by kernel_rfl
theorem kindEW (w : World) : ((ReflectliteType.abiMethod fun t => (fun a : Nat => Value.int IntKind.u8 (a : Int)) <$> Rtype.kind t) #[.pointer (some ⟨1, 61, none⟩)]).run Tryd.prog w = .ok (.int .u8 22) w := by kernel_rfl
theorem partsW (a : Addr) (w : World) : (ReflectliteValue.parts (.agg #[.pointer (some ⟨1, 65, none⟩), .pointer (some a), .int .u64 150])).run Tryd.prog w = .ok (some (65, a, 150)) w := by kernel_rfl
theorem isNilW (a p : Addr) (W : World) (ha : W.cell? a = some (.pointer (some p))) :
    (ReflectliteValue.method (ReflectliteValue.valueError "reflectlite.Value.IsNil" 0) ReflectliteValue.isNil #[.agg #[.pointer (some ⟨1, 65, none⟩), .pointer (some a), .int .u64 150]]).run Tryd.prog W = .ok (.bool false) W := by
  rw [rlm]
  simp only [Sem.run_bind, partsW, Result.andThen]
  simp [ReflectliteValue.isNil, loadVar, isAgg, underlying, Tryd.underlying65, ha, Result.andThen]
theorem elemW (w : World) : (ReflectliteType.method ReflectliteType.elem #[.agg #[.pointer (some ⟨1, 65, none⟩)]]).run Tryd.prog w = .ok (.iface 126 (.agg #[.pointer (some ⟨1, 61, none⟩)])) w := by kernel_rfl
theorem implementsW (w : World) : (ReflectliteType.relation "Implements" ReflectliteType.implements_ #[.agg #[.pointer (some ⟨1, 61, none⟩)], .iface 126 (.agg #[.pointer (some ⟨1, 54, none⟩)])]).run Tryd.prog w = .ok (.bool true) w := by kernel_rfl
theorem elemOfW (w : World) : (Rtype.elem? 65).run Tryd.prog w = .ok (some 61) w := by kernel_rfl
theorem mkEW (p : Addr) (w : World) : (ReflectliteValue.mk 61 p ReflectliteValue.flagAddr).run Tryd.prog w = .ok (.agg #[.pointer (some ⟨1, 61, none⟩), .pointer (some p), .int .u64 406]) w := by kernel_rfl
theorem elemVW (a p : Addr) (W : World) (ha : W.cell? a = some (.pointer (some p))) :
    (ReflectliteValue.method (ReflectliteValue.valueError "reflectlite.Value.Elem" 0) ReflectliteValue.elem #[.agg #[.pointer (some ⟨1, 65, none⟩), .pointer (some a), .int .u64 150]]).run Tryd.prog W = .ok (.agg #[.pointer (some ⟨1, 61, none⟩), .pointer (some p), .int .u64 406]) W := by
  rw [rlm]
  simp only [Sem.run_bind, partsW, Result.andThen]
  simp [ReflectliteValue.elem, loadVar, isAgg, underlying, Tryd.underlying65, ha, Result.andThen, elemOfW, mkEW]
theorem partsAW (a : Addr) (w : World) : (ReflectliteValue.parts (.agg #[.pointer (some ⟨1, 61, none⟩), .pointer (some a), .int .u64 406])).run Tryd.prog w = .ok (some (61, a, 406)) w := by kernel_rfl
theorem partsEW (a : Addr) (w : World) : (ReflectliteValue.parts (.agg #[.pointer (some ⟨1, 61, none⟩), .pointer (some a), .int .u64 150])).run Tryd.prog w = .ok (some (61, a, 150)) w := by kernel_rfl
theorem directW (w : World) : (Rtype.directlyAssignable 61 61).run Tryd.prog w = .ok true w := by kernel_rfl
theorem sizeW (w : World) : (sizeOf 61).run Tryd.prog w = .ok 1 w := by kernel_rfl
theorem valueOfEW (e : Addr) (w : World) : (ReflectliteValue.unpack (.iface 61 (.pointer (some e)))).run Tryd.prog w = .ok (.agg #[.pointer (some ⟨1, 61, none⟩), .pointer (some ⟨w.heap.size, 0, none⟩), .int .u64 150]) (w.alloc (.cells #[.pointer (some e)] 61)) := by kernel_rfl
theorem setW (ta b e : Addr) (old : Value) (W : World) (hb : W.cell? b = some (.pointer (some e))) (ht : W.cell? ta = some old) (hf : W.frozen? ta = false) :
    (ReflectliteValue.set #[.agg #[.pointer (some ⟨1, 61, none⟩), .pointer (some ta), .int .u64 406], .agg #[.pointer (some ⟨1, 61, none⟩), .pointer (some b), .int .u64 150]]).run Tryd.prog W = .ok (.tuple #[]) (W.setCell ta (.pointer (some e))) := by
  rw [rls]
  simp only [Sem.run_bind, partsAW, partsEW, Result.andThen]
  simp [ReflectliteValue.flagAddr, loadVar, isAgg, underlying, Tryd.underlying61, hb, Result.andThen, directW, storeVar, Value.cells, storeCells, Addr.add]
  rw [run_store Tryd.prog W ta _ _ (by rfl)]
  simp [ht, hf]
end Go.Proofs.YtccoeajjomfmnaaDoor
