/-
  Closed facts on the entries for internal/reflectlite that errors.As comes to with a target of the types int, *int and *any, and a nil pointer.
  Conditions: none.
-/
import Derived.Test.YtccoeajjomfmnaaDoorRefl
namespace Go.Proofs.YtccoeajjomfmnaaDoor
open Go.RowKit Go.Extern.Stop Go.Stop Go.Extern

theorem valueOfN (n : Int) (w : World) : (ReflectliteValue.unpack (.iface 3 (.int .i64 n))).run Tryd.prog w = .ok (.agg #[.pointer (some ⟨1, 3, none⟩), .pointer (some ⟨w.heap.size, 0, none⟩), .int .u64 130]) (w.alloc (.cells #[.int .i64 n] 3)) := by kernel_rfl
theorem typeN (a : Addr) (w : World) : (ReflectliteValue.methodAny (ReflectliteValue.valueError "reflectlite.Value.Type" 0) (fun t _ _ _ => ReflectliteType.toType t) #[.agg #[.pointer (some ⟨1, 3, none⟩), .pointer (some a), .int .u64 130]]).run Tryd.prog w = .ok (.iface 126 (.agg #[.pointer (some ⟨1, 3, none⟩)])) w := by kernel_rfl
theorem kindN (w : World) : ((ReflectliteType.abiMethod fun t => (fun a : Nat => Value.int IntKind.u8 (a : Int)) <$> Rtype.kind t) #[.pointer (some ⟨1, 3, none⟩)]).run Tryd.prog w = .ok (.int .u8 2) w := by kernel_rfl
theorem valueOfP (w : World) : (ReflectliteValue.unpack (.iface 60 (.pointer none))).run Tryd.prog w = .ok (.agg #[.pointer (some ⟨1, 60, none⟩), .pointer (some ⟨w.heap.size, 0, none⟩), .int .u64 150]) (w.alloc (.cells #[.pointer none] 60)) := by kernel_rfl
theorem isNilP (a : Addr) (W : World) (ha : W.cell? a = some (.pointer none)) : (ReflectliteValue.method (ReflectliteValue.valueError "reflectlite.Value.IsNil" 0) ReflectliteValue.isNil #[.agg #[.pointer (some ⟨1, 60, none⟩), .pointer (some a), .int .u64 150]]).run Tryd.prog W = .ok (.bool true) W := by
  rw [rlm]
  simp only [Sem.run_bind, partsV, Result.andThen]
  simp [ReflectliteValue.isNil, loadVar, isAgg, underlying, Tryd.underlying60, ha, Result.andThen]
theorem valueOfI (t : Addr) (w : World) : (ReflectliteValue.unpack (.iface 68 (.pointer (some t)))).run Tryd.prog w = .ok (.agg #[.pointer (some ⟨1, 68, none⟩), .pointer (some ⟨w.heap.size, 0, none⟩), .int .u64 150]) (w.alloc (.cells #[.pointer (some t)] 68)) := by kernel_rfl
theorem typeI (a : Addr) (w : World) : (ReflectliteValue.methodAny (ReflectliteValue.valueError "reflectlite.Value.Type" 0) (fun t _ _ _ => ReflectliteType.toType t) #[.agg #[.pointer (some ⟨1, 68, none⟩), .pointer (some a), .int .u64 150]]).run Tryd.prog w = .ok (.iface 126 (.agg #[.pointer (some ⟨1, 68, none⟩)])) w := by kernel_rfl
theorem kindPI (w : World) : ((ReflectliteType.abiMethod fun t => (fun a : Nat => Value.int IntKind.u8 (a : Int)) <$> Rtype.kind t) #[.pointer (some ⟨1, 68, none⟩)]).run Tryd.prog w = .ok (.int .u8 22) w := by kernel_rfl
theorem kindEI (w : World) : ((ReflectliteType.abiMethod fun t => (fun a : Nat => Value.int IntKind.u8 (a : Int)) <$> Rtype.kind t) #[.pointer (some ⟨1, 3, none⟩)]).run Tryd.prog w = .ok (.int .u8 2) w := by kernel_rfl
theorem partsI (a : Addr) (w : World) : (ReflectliteValue.parts (.agg #[.pointer (some ⟨1, 68, none⟩), .pointer (some a), .int .u64 150])).run Tryd.prog w = .ok (some (68, a, 150)) w := by kernel_rfl
theorem isNilI (a p : Addr) (W : World) (ha : W.cell? a = some (.pointer (some p))) : (ReflectliteValue.method (ReflectliteValue.valueError "reflectlite.Value.IsNil" 0) ReflectliteValue.isNil #[.agg #[.pointer (some ⟨1, 68, none⟩), .pointer (some a), .int .u64 150]]).run Tryd.prog W = .ok (.bool false) W := by
  rw [rlm]
  simp only [Sem.run_bind, partsI, Result.andThen]
  simp [ReflectliteValue.isNil, loadVar, isAgg, underlying, Tryd.underlying68, ha, Result.andThen]
theorem elemI (w : World) : (ReflectliteType.method ReflectliteType.elem #[.agg #[.pointer (some ⟨1, 68, none⟩)]]).run Tryd.prog w = .ok (.iface 126 (.agg #[.pointer (some ⟨1, 3, none⟩)])) w := by kernel_rfl
theorem valueOfA (t : Addr) (w : World) : (ReflectliteValue.unpack (.iface 69 (.pointer (some t)))).run Tryd.prog w = .ok (.agg #[.pointer (some ⟨1, 69, none⟩), .pointer (some ⟨w.heap.size, 0, none⟩), .int .u64 150]) (w.alloc (.cells #[.pointer (some t)] 69)) := by kernel_rfl
theorem typeA (a : Addr) (w : World) : (ReflectliteValue.methodAny (ReflectliteValue.valueError "reflectlite.Value.Type" 0) (fun t _ _ _ => ReflectliteType.toType t) #[.agg #[.pointer (some ⟨1, 69, none⟩), .pointer (some a), .int .u64 150]]).run Tryd.prog w = .ok (.iface 126 (.agg #[.pointer (some ⟨1, 69, none⟩)])) w := by kernel_rfl
theorem kindPA (w : World) : ((ReflectliteType.abiMethod fun t => (fun a : Nat => Value.int IntKind.u8 (a : Int)) <$> Rtype.kind t) #[.pointer (some ⟨1, 69, none⟩)]).run Tryd.prog w = .ok (.int .u8 22) w := by kernel_rfl
theorem kindEA (w : World) : ((ReflectliteType.abiMethod fun t => (fun a : Nat => Value.int IntKind.u8 (a : Int)) <$> Rtype.kind t) #[.pointer (some ⟨1, 20, none⟩)]).run Tryd.prog w = .ok (.int .u8 20) w := by kernel_rfl
theorem partsA (a : Addr) (w : World) : (ReflectliteValue.parts (.agg #[.pointer (some ⟨1, 69, none⟩), .pointer (some a), .int .u64 150])).run Tryd.prog w = .ok (some (69, a, 150)) w := by kernel_rfl
theorem isNilA (a p : Addr) (W : World) (ha : W.cell? a = some (.pointer (some p))) : (ReflectliteValue.method (ReflectliteValue.valueError "reflectlite.Value.IsNil" 0) ReflectliteValue.isNil #[.agg #[.pointer (some ⟨1, 69, none⟩), .pointer (some a), .int .u64 150]]).run Tryd.prog W = .ok (.bool false) W := by
  rw [rlm]
  simp only [Sem.run_bind, partsA, Result.andThen]
  simp [ReflectliteValue.isNil, loadVar, isAgg, underlying, Tryd.underlying69, ha, Result.andThen]
theorem elemA (w : World) : (ReflectliteType.method ReflectliteType.elem #[.agg #[.pointer (some ⟨1, 69, none⟩)]]).run Tryd.prog w = .ok (.iface 126 (.agg #[.pointer (some ⟨1, 20, none⟩)])) w := by kernel_rfl
theorem errInfo : (Tryd.prog.info? 54).map (fun i => match i.desc with | .named _ u => u | _ => 0) = some 53 := by kernel_rfl
theorem errInfo2 : (Tryd.prog.info? 53).map (fun i => match i.desc with | .interface want => (lacking want #[]).isEmpty | _ => true) = some false := by kernel_rfl
theorem intInfo : (Tryd.prog.info? 3).map (fun i => (match i.desc with | .int _ => true | _ => false, i.methods.toList)) = some (true, []) := by kernel_rfl
theorem npI1 (w : World) : (Rtype.noPackMethods "Implements" 3).run Tryd.prog w = .ok () w := by kernel_rfl
theorem npI2 (w : World) : (Rtype.noPack "Implements" 54).run Tryd.prog w = .ok () w := by kernel_rfl
theorem npI3 (w : World) : (Rtype.noPackMethods "a method set held against an interface's list" 3).run Tryd.prog w = .ok () w := by kernel_rfl
theorem npI4 (w : World) : (Rtype.noPackMethods "a method set held against an interface's list" 54).run Tryd.prog w = .ok () w := by kernel_rfl
theorem kindErr (w : World) : (Rtype.kind 54).run Tryd.prog w = .ok 20 w := by kernel_rfl
theorem ofErr (w : World) : (ReflectliteType.ofRtype (.agg #[.pointer (some ⟨1, 54, none⟩)])).run Tryd.prog w = .ok 54 w := by kernel_rfl
theorem ofInt (w : World) : (ReflectliteType.ofRtype (.agg #[.pointer (some ⟨1, 3, none⟩)])).run Tryd.prog w = .ok 3 w := by kernel_rfl
theorem implInt (w : World) : (Rtype.implements 54 3).run Tryd.prog w = .ok false w := by
  obtain ⟨i, hi, hd⟩ := Option.map_eq_some_iff.1 errInfo
  obtain ⟨j, hj, hl⟩ := Option.map_eq_some_iff.1 errInfo2
  obtain ⟨k, hk, hm⟩ := Option.map_eq_some_iff.1 intInfo
  have hd' : ∃ q, i.desc = .named q 53 := by
    cases hc : i.desc <;> rw [hc] at hd <;> simp at hd
    subst hd
    exact ⟨_, rfl⟩
  have hl' : ∃ want, j.desc = .interface want ∧ lacking want #[] ≠ [] := by
    cases hc : j.desc <;> rw [hc] at hl <;> simp at hl
    exact ⟨_, rfl, hl⟩
  have hm' : ∃ ik, k.desc = .int ik := by
    cases hc : k.desc <;> rw [hc] at hm <;> simp at hm
    exact ⟨_, rfl⟩
  have hmm : k.methods = #[] := by
    have := congrArg Prod.snd hm
    cases hx : k.methods
    rw [hx] at this
    simpa using this
  obtain ⟨q, hd'⟩ := hd'
  obtain ⟨want, hj', hlk⟩ := hl'
  obtain ⟨ik, hk'⟩ := hm'
  obtain ⟨m, hmiss⟩ := missingMethod_some hlk
  simp [Rtype.implements, npI3, npI4, Rtype.under, typeInfo, hi, hd', hj, hj', hk, hk', hmm, hmiss]
theorem relI (f : TypeId → TypeId → Sem Bool) (r u : Value) (t : TypeId) : ReflectliteType.relation "Implements" f #[r, .iface t u] = (do pure (.bool (← f (← ReflectliteType.ofRtype u) (← ReflectliteType.ofRtype r)))) := rfl
theorem implementsI (w : World) : (ReflectliteType.relation "Implements" ReflectliteType.implements_ #[.agg #[.pointer (some ⟨1, 3, none⟩)], .iface 126 (.agg #[.pointer (some ⟨1, 54, none⟩)])]).run Tryd.prog w = .ok (.bool false) w := by
  rw [relI]
  simp [ReflectliteType.implements_, ofErr, ofInt, kindErr, npI1, npI2, implInt]
theorem elemOfA (w : World) : (Rtype.elem? 69).run Tryd.prog w = .ok (some 20) w := by kernel_rfl
theorem mkEA (p : Addr) (w : World) : (ReflectliteValue.mk 20 p ReflectliteValue.flagAddr).run Tryd.prog w = .ok (.agg #[.pointer (some ⟨1, 20, none⟩), .pointer (some p), .int .u64 404]) w := by kernel_rfl
theorem elemVA (a p : Addr) (W : World) (ha : W.cell? a = some (.pointer (some p))) :
    (ReflectliteValue.method (ReflectliteValue.valueError "reflectlite.Value.Elem" 0) ReflectliteValue.elem #[.agg #[.pointer (some ⟨1, 69, none⟩), .pointer (some a), .int .u64 150]]).run Tryd.prog W = .ok (.agg #[.pointer (some ⟨1, 20, none⟩), .pointer (some p), .int .u64 404]) W := by
  rw [rlm]
  simp only [Sem.run_bind, partsA, Result.andThen]
  simp [ReflectliteValue.elem, loadVar, isAgg, underlying, Tryd.underlying69, ha, Result.andThen, elemOfA, mkEA]
theorem partsAA (a : Addr) (w : World) : (ReflectliteValue.parts (.agg #[.pointer (some ⟨1, 20, none⟩), .pointer (some a), .int .u64 404])).run Tryd.prog w = .ok (some (20, a, 404)) w := by kernel_rfl
theorem assignA_text (w : World) : (ReflectliteType.relation "AssignableTo" ReflectliteType.assignableTo #[.agg #[.pointer (some ⟨1, 119, none⟩)], .iface 126 (.agg #[.pointer (some ⟨1, 20, none⟩)])]).run Tryd.prog w = .ok (.bool true) w := by kernel_rfl
theorem valueOf_text (e : Addr) (w : World) : (ReflectliteValue.unpack (.iface 119 (.pointer (some e)))).run Tryd.prog w = .ok (.agg #[.pointer (some ⟨1, 119, none⟩), .pointer (some ⟨w.heap.size, 0, none⟩), .int .u64 150]) (w.alloc (.cells #[.pointer (some e)] 119)) := by kernel_rfl
theorem parts_text (a : Addr) (w : World) : (ReflectliteValue.parts (.agg #[.pointer (some ⟨1, 119, none⟩), .pointer (some a), .int .u64 150])).run Tryd.prog w = .ok (some (119, a, 150)) w := by kernel_rfl
theorem direct_text (w : World) : (Rtype.directlyAssignable 20 119).run Tryd.prog w = .ok false w := by kernel_rfl
theorem impl_text (w : World) : (Rtype.implements 20 119).run Tryd.prog w = .ok true w := by kernel_rfl
theorem kind_text (w : World) : (Rtype.kind 119).run Tryd.prog w = .ok 22 w := by kernel_rfl
theorem setA_text (ta : Addr) (b : Nat) (e : Addr) (old : Value) (W : World) (hb : W.cell? ⟨b, 0, none⟩ = some (.pointer (some e))) (ht : W.cell? ta = some old) (hf : W.frozen? ta = false) :
    (ReflectliteValue.set #[.agg #[.pointer (some ⟨1, 20, none⟩), .pointer (some ta), .int .u64 404], .agg #[.pointer (some ⟨1, 119, none⟩), .pointer (some ⟨b, 0, none⟩), .int .u64 150]]).run Tryd.prog W = .ok (.tuple #[]) (W.setCell ta (.iface 119 (.pointer (some e)))) := by
  rw [rls]
  simp only [Sem.run_bind, partsAA, parts_text, Result.andThen]
  simp [ReflectliteValue.flagAddr, loadVar, isAgg, underlying, Tryd.underlying119, hb, Result.andThen, direct_text, impl_text, kind_text, storeVar, Value.cells, storeCells, Addr.add]
  rw [run_store Tryd.prog W ta _ _ (by rfl)]
  simp [ht, hf]
theorem assignA_value (w : World) : (ReflectliteType.relation "AssignableTo" ReflectliteType.assignableTo #[.agg #[.pointer (some ⟨1, 50, none⟩)], .iface 126 (.agg #[.pointer (some ⟨1, 20, none⟩)])]).run Tryd.prog w = .ok (.bool true) w := by kernel_rfl
theorem valueOf_value (key : Int) (w : World) : (ReflectliteValue.unpack (.iface 50 (.agg #[.int .i64 key]))).run Tryd.prog w = .ok (.agg #[.pointer (some ⟨1, 50, none⟩), .pointer (some ⟨w.heap.size, 0, none⟩), .int .u64 153]) (w.alloc (.cells #[.int .i64 key] 50)) := by kernel_rfl
theorem parts_value (a : Addr) (w : World) : (ReflectliteValue.parts (.agg #[.pointer (some ⟨1, 50, none⟩), .pointer (some a), .int .u64 153])).run Tryd.prog w = .ok (some (50, a, 153)) w := by kernel_rfl
theorem direct_value (w : World) : (Rtype.directlyAssignable 20 50).run Tryd.prog w = .ok false w := by kernel_rfl
theorem impl_value (w : World) : (Rtype.implements 20 50).run Tryd.prog w = .ok true w := by kernel_rfl
theorem kind_value (w : World) : (Rtype.kind 50).run Tryd.prog w = .ok 25 w := by kernel_rfl
theorem setA_value (ta : Addr) (b : Nat) (key : Int) (old : Value) (W : World) (hb : W.cell? ⟨b, 0, none⟩ = some (.int .i64 key)) (ht : W.cell? ta = some old) (hf : W.frozen? ta = false) :
    (ReflectliteValue.set #[.agg #[.pointer (some ⟨1, 20, none⟩), .pointer (some ta), .int .u64 404], .agg #[.pointer (some ⟨1, 50, none⟩), .pointer (some ⟨b, 0, none⟩), .int .u64 153]]).run Tryd.prog W = .ok (.tuple #[]) (W.setCell ta (.iface 50 (.agg #[.int .i64 key]))) := by
  rw [rls]
  simp only [Sem.run_bind, partsAA, parts_value, Result.andThen]
  simp [ReflectliteValue.flagAddr, loadVar, isAgg, underlying, Tryd.underlying50, hb, Result.andThen, direct_value, impl_value, kind_value, storeVar, Value.cells, storeCells, loadCells, loadCellsFrom, Addr.add]
  rw [run_store Tryd.prog W ta _ _ (by rfl)]
  simp [ht, hf]
theorem assignA_list (w : World) : (ReflectliteType.relation "AssignableTo" ReflectliteType.assignableTo #[.agg #[.pointer (some ⟨1, 80, none⟩)], .iface 126 (.agg #[.pointer (some ⟨1, 20, none⟩)])]).run Tryd.prog w = .ok (.bool true) w := by kernel_rfl
theorem valueOf_list (i : Int) (c : Nat) (w : World) : (ReflectliteValue.unpack (.iface 80 (.agg #[.int .i64 i, .slice (some ⟨c, 0, none⟩) 1 1]))).run Tryd.prog w = .ok (.agg #[.pointer (some ⟨1, 80, none⟩), .pointer (some ⟨w.heap.size, 0, none⟩), .int .u64 153]) (w.alloc (.cells #[.int .i64 i, .slice (some ⟨c, 0, none⟩) 1 1] 80)) := by kernel_rfl
theorem parts_list (a : Addr) (w : World) : (ReflectliteValue.parts (.agg #[.pointer (some ⟨1, 80, none⟩), .pointer (some a), .int .u64 153])).run Tryd.prog w = .ok (some (80, a, 153)) w := by kernel_rfl
theorem direct_list (w : World) : (Rtype.directlyAssignable 20 80).run Tryd.prog w = .ok false w := by kernel_rfl
theorem impl_list (w : World) : (Rtype.implements 20 80).run Tryd.prog w = .ok true w := by kernel_rfl
theorem kind_list (w : World) : (Rtype.kind 80).run Tryd.prog w = .ok 25 w := by kernel_rfl
theorem setA_list (ta : Addr) (b : Nat) (i : Int) (c : Nat) (old : Value) (W : World) (hb : W.cell? ⟨b, 0, none⟩ = some (.int .i64 i)) (hb1 : W.cell? ⟨b, 1, none⟩ = some (.slice (some ⟨c, 0, none⟩) 1 1)) (ht : W.cell? ta = some old) (hf : W.frozen? ta = false) :
    (ReflectliteValue.set #[.agg #[.pointer (some ⟨1, 20, none⟩), .pointer (some ta), .int .u64 404], .agg #[.pointer (some ⟨1, 80, none⟩), .pointer (some ⟨b, 0, none⟩), .int .u64 153]]).run Tryd.prog W = .ok (.tuple #[]) (W.setCell ta (.iface 80 (.agg #[.int .i64 i, .slice (some ⟨c, 0, none⟩) 1 1]))) := by
  rw [rls]
  simp only [Sem.run_bind, partsAA, parts_list, Result.andThen]
  simp [ReflectliteValue.flagAddr, loadVar, isAgg, underlying, Tryd.underlying80, hb, hb1, Result.andThen, direct_list, impl_list, kind_list, storeVar, Value.cells, storeCells, loadCells, loadCellsFrom, Addr.add]
  rw [run_store Tryd.prog W ta _ _ (by rfl)]
  simp [ht, hf]
theorem assignA_wrap (w : World) : (ReflectliteType.relation "AssignableTo" ReflectliteType.assignableTo #[.agg #[.pointer (some ⟨1, 61, none⟩)], .iface 126 (.agg #[.pointer (some ⟨1, 20, none⟩)])]).run Tryd.prog w = .ok (.bool true) w := by kernel_rfl
theorem valueOf_wrap (e : Addr) (w : World) : (ReflectliteValue.unpack (.iface 61 (.pointer (some e)))).run Tryd.prog w = .ok (.agg #[.pointer (some ⟨1, 61, none⟩), .pointer (some ⟨w.heap.size, 0, none⟩), .int .u64 150]) (w.alloc (.cells #[.pointer (some e)] 61)) := by kernel_rfl
theorem parts_wrap (a : Addr) (w : World) : (ReflectliteValue.parts (.agg #[.pointer (some ⟨1, 61, none⟩), .pointer (some a), .int .u64 150])).run Tryd.prog w = .ok (some (61, a, 150)) w := by kernel_rfl
theorem direct_wrap (w : World) : (Rtype.directlyAssignable 20 61).run Tryd.prog w = .ok false w := by kernel_rfl
theorem impl_wrap (w : World) : (Rtype.implements 20 61).run Tryd.prog w = .ok true w := by kernel_rfl
theorem kind_wrap (w : World) : (Rtype.kind 61).run Tryd.prog w = .ok 22 w := by kernel_rfl
theorem setA_wrap (ta : Addr) (b : Nat) (e : Addr) (old : Value) (W : World) (hb : W.cell? ⟨b, 0, none⟩ = some (.pointer (some e))) (ht : W.cell? ta = some old) (hf : W.frozen? ta = false) :
    (ReflectliteValue.set #[.agg #[.pointer (some ⟨1, 20, none⟩), .pointer (some ta), .int .u64 404], .agg #[.pointer (some ⟨1, 61, none⟩), .pointer (some ⟨b, 0, none⟩), .int .u64 150]]).run Tryd.prog W = .ok (.tuple #[]) (W.setCell ta (.iface 61 (.pointer (some e)))) := by
  rw [rls]
  simp only [Sem.run_bind, partsAA, parts_wrap, Result.andThen]
  simp [ReflectliteValue.flagAddr, loadVar, isAgg, underlying, Tryd.underlying61, hb, Result.andThen, direct_wrap, impl_wrap, kind_wrap, storeVar, Value.cells, storeCells, Addr.add]
  rw [run_store Tryd.prog W ta _ _ (by rfl)]
  simp [ht, hf]
theorem assignA_many (w : World) : (ReflectliteType.relation "AssignableTo" ReflectliteType.assignableTo #[.agg #[.pointer (some ⟨1, 84, none⟩)], .iface 126 (.agg #[.pointer (some ⟨1, 20, none⟩)])]).run Tryd.prog w = .ok (.bool true) w := by kernel_rfl
theorem valueOf_many (e : Addr) (w : World) : (ReflectliteValue.unpack (.iface 84 (.pointer (some e)))).run Tryd.prog w = .ok (.agg #[.pointer (some ⟨1, 84, none⟩), .pointer (some ⟨w.heap.size, 0, none⟩), .int .u64 150]) (w.alloc (.cells #[.pointer (some e)] 84)) := by kernel_rfl
theorem parts_many (a : Addr) (w : World) : (ReflectliteValue.parts (.agg #[.pointer (some ⟨1, 84, none⟩), .pointer (some a), .int .u64 150])).run Tryd.prog w = .ok (some (84, a, 150)) w := by kernel_rfl
theorem direct_many (w : World) : (Rtype.directlyAssignable 20 84).run Tryd.prog w = .ok false w := by kernel_rfl
theorem impl_many (w : World) : (Rtype.implements 20 84).run Tryd.prog w = .ok true w := by kernel_rfl
theorem kind_many (w : World) : (Rtype.kind 84).run Tryd.prog w = .ok 22 w := by kernel_rfl
theorem setA_many (ta : Addr) (b : Nat) (e : Addr) (old : Value) (W : World) (hb : W.cell? ⟨b, 0, none⟩ = some (.pointer (some e))) (ht : W.cell? ta = some old) (hf : W.frozen? ta = false) :
    (ReflectliteValue.set #[.agg #[.pointer (some ⟨1, 20, none⟩), .pointer (some ta), .int .u64 404], .agg #[.pointer (some ⟨1, 84, none⟩), .pointer (some ⟨b, 0, none⟩), .int .u64 150]]).run Tryd.prog W = .ok (.tuple #[]) (W.setCell ta (.iface 84 (.pointer (some e)))) := by
  rw [rls]
  simp only [Sem.run_bind, partsAA, parts_many, Result.andThen]
  simp [ReflectliteValue.flagAddr, loadVar, isAgg, underlying, Tryd.underlying84, hb, Result.andThen, direct_many, impl_many, kind_many, storeVar, Value.cells, storeCells, Addr.add]
  rw [run_store Tryd.prog W ta _ _ (by rfl)]
  simp [ht, hf]
theorem assignA_join (w : World) : (ReflectliteType.relation "AssignableTo" ReflectliteType.assignableTo #[.agg #[.pointer (some ⟨1, 122, none⟩)], .iface 126 (.agg #[.pointer (some ⟨1, 20, none⟩)])]).run Tryd.prog w = .ok (.bool true) w := by kernel_rfl
theorem valueOf_join (e : Addr) (w : World) : (ReflectliteValue.unpack (.iface 122 (.pointer (some e)))).run Tryd.prog w = .ok (.agg #[.pointer (some ⟨1, 122, none⟩), .pointer (some ⟨w.heap.size, 0, none⟩), .int .u64 150]) (w.alloc (.cells #[.pointer (some e)] 122)) := by kernel_rfl
theorem parts_join (a : Addr) (w : World) : (ReflectliteValue.parts (.agg #[.pointer (some ⟨1, 122, none⟩), .pointer (some a), .int .u64 150])).run Tryd.prog w = .ok (some (122, a, 150)) w := by kernel_rfl
theorem direct_join (w : World) : (Rtype.directlyAssignable 20 122).run Tryd.prog w = .ok false w := by kernel_rfl
theorem impl_join (w : World) : (Rtype.implements 20 122).run Tryd.prog w = .ok true w := by kernel_rfl
theorem kind_join (w : World) : (Rtype.kind 122).run Tryd.prog w = .ok 22 w := by kernel_rfl
theorem setA_join (ta : Addr) (b : Nat) (e : Addr) (old : Value) (W : World) (hb : W.cell? ⟨b, 0, none⟩ = some (.pointer (some e))) (ht : W.cell? ta = some old) (hf : W.frozen? ta = false) :
    (ReflectliteValue.set #[.agg #[.pointer (some ⟨1, 20, none⟩), .pointer (some ta), .int .u64 404], .agg #[.pointer (some ⟨1, 122, none⟩), .pointer (some ⟨b, 0, none⟩), .int .u64 150]]).run Tryd.prog W = .ok (.tuple #[]) (W.setCell ta (.iface 122 (.pointer (some e)))) := by
  rw [rls]
  simp only [Sem.run_bind, partsAA, parts_join, Result.andThen]
  simp [ReflectliteValue.flagAddr, loadVar, isAgg, underlying, Tryd.underlying122, hb, Result.andThen, direct_join, impl_join, kind_join, storeVar, Value.cells, storeCells, Addr.add]
  rw [run_store Tryd.prog W ta _ _ (by rfl)]
  simp [ht, hf]
theorem assignA_alike (w : World) : (ReflectliteType.relation "AssignableTo" ReflectliteType.assignableTo #[.agg #[.pointer (some ⟨1, 89, none⟩)], .iface 126 (.agg #[.pointer (some ⟨1, 20, none⟩)])]).run Tryd.prog w = .ok (.bool true) w := by kernel_rfl
theorem valueOf_alike (e : Addr) (w : World) : (ReflectliteValue.unpack (.iface 89 (.pointer (some e)))).run Tryd.prog w = .ok (.agg #[.pointer (some ⟨1, 89, none⟩), .pointer (some ⟨w.heap.size, 0, none⟩), .int .u64 150]) (w.alloc (.cells #[.pointer (some e)] 89)) := by kernel_rfl
theorem parts_alike (a : Addr) (w : World) : (ReflectliteValue.parts (.agg #[.pointer (some ⟨1, 89, none⟩), .pointer (some a), .int .u64 150])).run Tryd.prog w = .ok (some (89, a, 150)) w := by kernel_rfl
theorem direct_alike (w : World) : (Rtype.directlyAssignable 20 89).run Tryd.prog w = .ok false w := by kernel_rfl
theorem impl_alike (w : World) : (Rtype.implements 20 89).run Tryd.prog w = .ok true w := by kernel_rfl
theorem kind_alike (w : World) : (Rtype.kind 89).run Tryd.prog w = .ok 22 w := by kernel_rfl
theorem setA_alike (ta : Addr) (b : Nat) (e : Addr) (old : Value) (W : World) (hb : W.cell? ⟨b, 0, none⟩ = some (.pointer (some e))) (ht : W.cell? ta = some old) (hf : W.frozen? ta = false) :
    (ReflectliteValue.set #[.agg #[.pointer (some ⟨1, 20, none⟩), .pointer (some ta), .int .u64 404], .agg #[.pointer (some ⟨1, 89, none⟩), .pointer (some ⟨b, 0, none⟩), .int .u64 150]]).run Tryd.prog W = .ok (.tuple #[]) (W.setCell ta (.iface 89 (.pointer (some e)))) := by
  rw [rls]
  simp only [Sem.run_bind, partsAA, parts_alike, Result.andThen]
  simp [ReflectliteValue.flagAddr, loadVar, isAgg, underlying, Tryd.underlying89, hb, Result.andThen, direct_alike, impl_alike, kind_alike, storeVar, Value.cells, storeCells, Addr.add]
  rw [run_store Tryd.prog W ta _ _ (by rfl)]
  simp [ht, hf]
theorem assignA_acts (w : World) : (ReflectliteType.relation "AssignableTo" ReflectliteType.assignableTo #[.agg #[.pointer (some ⟨1, 92, none⟩)], .iface 126 (.agg #[.pointer (some ⟨1, 20, none⟩)])]).run Tryd.prog w = .ok (.bool true) w := by kernel_rfl
theorem valueOf_acts (e : Addr) (w : World) : (ReflectliteValue.unpack (.iface 92 (.pointer (some e)))).run Tryd.prog w = .ok (.agg #[.pointer (some ⟨1, 92, none⟩), .pointer (some ⟨w.heap.size, 0, none⟩), .int .u64 150]) (w.alloc (.cells #[.pointer (some e)] 92)) := by kernel_rfl
theorem parts_acts (a : Addr) (w : World) : (ReflectliteValue.parts (.agg #[.pointer (some ⟨1, 92, none⟩), .pointer (some a), .int .u64 150])).run Tryd.prog w = .ok (some (92, a, 150)) w := by kernel_rfl
theorem direct_acts (w : World) : (Rtype.directlyAssignable 20 92).run Tryd.prog w = .ok false w := by kernel_rfl
theorem impl_acts (w : World) : (Rtype.implements 20 92).run Tryd.prog w = .ok true w := by kernel_rfl
theorem kind_acts (w : World) : (Rtype.kind 92).run Tryd.prog w = .ok 22 w := by kernel_rfl
theorem setA_acts (ta : Addr) (b : Nat) (e : Addr) (old : Value) (W : World) (hb : W.cell? ⟨b, 0, none⟩ = some (.pointer (some e))) (ht : W.cell? ta = some old) (hf : W.frozen? ta = false) :
    (ReflectliteValue.set #[.agg #[.pointer (some ⟨1, 20, none⟩), .pointer (some ta), .int .u64 404], .agg #[.pointer (some ⟨1, 92, none⟩), .pointer (some ⟨b, 0, none⟩), .int .u64 150]]).run Tryd.prog W = .ok (.tuple #[]) (W.setCell ta (.iface 92 (.pointer (some e)))) := by
  rw [rls]
  simp only [Sem.run_bind, partsAA, parts_acts, Result.andThen]
  simp [ReflectliteValue.flagAddr, loadVar, isAgg, underlying, Tryd.underlying92, hb, Result.andThen, direct_acts, impl_acts, kind_acts, storeVar, Value.cells, storeCells, Addr.add]
  rw [run_store Tryd.prog W ta _ _ (by rfl)]
  simp [ht, hf]
end Go.Proofs.YtccoeajjomfmnaaDoor
