/-
  errors.As where it panics, the thin package's as, which recovers, and errors.As with a target of type *any.
  Conditions: the variable errors.errorType holds the handle of the type error.
-/
import Derived.Test.YtccoeajjomfmnaaDoorRefl2
import Derived.Test.YtccoeajjomfmnaaDoorImplAsTo
import Derived.Defers
import Derived.Recover
namespace Go.Proofs.YtccoeajjomfmnaaDoor
open Go.RowKit Go.Lib Go.Extern.Stop Go.Stop Go.Extern

theorem catch_panicking (q : Addr) (x : Bool) (u : TypeId) (pv : Value) (older : List PanicEntry) (w : World) (hc : w.cell? q = some (.bool x)) (hz : w.frozen? q = false) :
    CallsD Tryd.prog 45 #[.pointer (some q)] (.panicking ({ v := .iface u pv, recovered := false } :: older)) w fun e u' w' =>
      e = .returned (.tuple #[]) ∧ u' = .panicking ({ v := .iface u pv, recovered := true } :: older) ∧ w' = w.setCell q (.bool false) := by
  refine callsD_of_wpS Tryd.func45 rfl fun c₀ cs hu => ?_
  apply wpS_seq
  apply wpS_region
  simp [wpOpsS, go_sem, recoverD, hu, Tryd.ntmps45, Exit.thenS]
  refine wpS_cond (t := true) (by simp [Act.eval, Array.replicate]) ?_
  simp only [if_true]
  apply wpS_region
  simp [wpOpsS, go_sem, hc, hz, bodyPostS, results, Tryd.results45]

theorem catch_idle (q : Addr) (w : World) :
    CallsD Tryd.prog 45 #[.pointer (some q)] .returning w fun e u' w' => e = .returned (.tuple #[]) ∧ u' = .returning ∧ w' = w := by
  refine callsD_of_wpS Tryd.func45 rfl fun c₀ cs hu => ?_
  apply wpS_seq
  apply wpS_region
  simp [wpOpsS, go_sem, recoverD, hu, Tryd.ntmps45, Exit.thenS]
  refine wpS_cond (t := false) (by simp [Act.eval, Array.replicate]) ?_
  simp only [Bool.false_eq_true, if_false]
  refine wpS_of_wp (wp_skip ?_)
  cases c₀
  simp_all [bodyPostS, results, Tryd.results45]

set_option maxHeartbeats 2000000 in
theorem as_panic (err tgt : Value) (w : World) (h : Calls Tryd.prog 26 #[err, tgt] (w.alloc (.cells #[.bool false] 4)) fun e w' => (∃ u x, e = .panicked [{ v := .iface u x, recovered := false }]) ∧ Below (w.alloc (.cells #[.bool false] 4)).heap.size (w.alloc (.cells #[.bool false] 4)) w') :
    Calls Tryd.prog 31 #[err, tgt] w fun e w' => e = .returned (.bool false) ∧ Below w.heap.size w w' := by
  have hmf : ∀ (fn : Fn) (first cap : Array Value) (w : World), (Instr.makeFunc fn first cap).run Tryd.prog w = .ok (.func fn first cap) w := fun _ _ _ _ => rfl
  have HC := Lib.hid h
  clear h
  go_enter_defers Tryd.func31, Tryd.ntmps31
  go_wp2_with (go_at_call 26; refine HC.out.mono ?_; rintro e w2 ⟨⟨u, x, rfl⟩, hb2⟩)
  have h0 := heap_keep hb2 (heap_top w (.cells #[.bool false] 4) w.heap.size rfl)
  have hcl := cell_of_heap h0 0 rfl
  have hfr := frozen_of_heap h0 0
  refine leaves_cons (f := 45) (args := #[.pointer (some ⟨w.heap.size, 0, none⟩)]) (by simp) (by simp [go_sem]) ?_
  refine (catch_panicking ⟨w.heap.size, 0, none⟩ false u x [] _ hcl hfr).mono ?_
  rintro e u' w'' ⟨rfl, rfl, rfl⟩
  have hs := World.cell?_setCell_same w2 ⟨w.heap.size, 0, none⟩ (.bool false) hcl
  have hB : Below w.heap.size w (w2.setCell ⟨w.heap.size, 0, none⟩ (.bool false)) := (below_after (below_alloc _ _) hb2).setCell (p := ⟨w.heap.size, 0, none⟩) (Nat.le_refl _) _
  simp [Leaves, settle, results, Tryd.results31, go_sem, hs, hB]

set_option maxHeartbeats 2000000 in
theorem as_fine (err tgt : Value) (T : Nat) (w : World) (hT : T < w.heap.size) (h : Calls Tryd.prog 26 #[err, tgt] (w.alloc (.cells #[.bool false] 4)) fun e w' => (∃ b, e = .returned (.bool b)) ∧ (w.alloc (.cells #[.bool false] 4)).grownBy w' (some T)) :
    Calls Tryd.prog 31 #[err, tgt] w fun e w' => e = .returned (.bool true) ∧ w.grownBy w' (some T) := by
  have hmf : ∀ (fn : Fn) (first cap : Array Value) (w : World), (Instr.makeFunc fn first cap).run Tryd.prog w = .ok (.func fn first cap) w := fun _ _ _ _ => rfl
  have HC := Lib.hid h
  clear h
  go_enter_defers Tryd.func31, Tryd.ntmps31
  go_wp2_with (go_at_call 26; refine HC.out.mono ?_; rintro e w2 ⟨⟨b, rfl⟩, hg2⟩; have h0 : w2.heap[w.heap.size]? = some (.cells #[.bool false] 4 (0, 0)) := (hg2.block w.heap.size (by simp) (fun h => by injection h with h; omega)).trans (heap_top w (.cells #[.bool false] 4) w.heap.size rfl); have hcl := cell_of_heap h0 0 rfl; have hfr := frozen_of_heap h0 0; clear h0)
  refine leaves_cons (f := 45) (args := #[.pointer (some ⟨w.heap.size, 0, none⟩)]) (by simp) (by simp [go_sem]) ?_
  refine (catch_idle ⟨w.heap.size, 0, none⟩ _).mono ?_
  rintro e u' w'' ⟨rfl, rfl, rfl⟩
  have hs := World.cell?_setCell_same w2 ⟨w.heap.size, 0, none⟩ (.bool true) hcl
  have hB : w.grownBy (w2.setCell ⟨w.heap.size, 0, none⟩ (.bool true)) (some T) := gB_set (gB_before (below_alloc _ _) hg2) (Nat.le_refl _) _
  simp [Leaves, settle, results, Tryd.results31, go_sem, hs, hB]

theorem errAs_pnil (t : TypeId) (u : Value) (w : World) : Calls Tryd.prog 26 #[.iface t u, .nilIface] w fun e w' => (∃ u x, e = .panicked [{ v := .iface u x, recovered := false }]) ∧ Below w.heap.size w w' := by
  go_enter Tryd.func26, Tryd.ntmps26
  go_wp2
  exact ⟨rfl, ⟨_, _, rfl⟩, Below.refl _ _⟩


set_option maxHeartbeats 2000000 in
theorem errAs_pnum (t : TypeId) (u : Value) (n : Int) (w : World) : Calls Tryd.prog 26 #[.iface t u, .iface 3 (.int .i64 n)] w fun e w' => (∃ u x, e = .panicked [{ v := .iface u x, recovered := false }]) ∧ Below w.heap.size w w' := by
  have xV := @run_callFunc_extern Tryd.prog 40 _ (fun args => ReflectliteValue.unpack (args.getD 0 (.tuple #[]))) Tryd.func40 (by kernel_rfl) (by kernel_rfl) (by kernel_rfl) (by kernel_rfl)
  have xTy := @run_callFunc_extern Tryd.prog 41 _ (ReflectliteValue.methodAny (ReflectliteValue.valueError "reflectlite.Value.Type" 0) (fun t _ _ _ => ReflectliteType.toType t)) Tryd.func41 (by kernel_rfl) (by kernel_rfl) (by kernel_rfl) (by kernel_rfl)
  have xK := @run_callFunc_extern Tryd.prog 66 _ (ReflectliteType.abiMethod fun t => do pure (.int .u8 (← Rtype.kind t))) Tryd.func66 (by kernel_rfl) (by kernel_rfl) (by kernel_rfl) (by kernel_rfl)
  have f1 := valueOfN
  have f2 := typeN
  have f3 := methKind
  have f4 := kindN
  go_enter Tryd.func26, Tryd.ntmps26
  go_wp2
  exact ⟨rfl, ⟨_, _, rfl⟩, below_after (below_alloc _ _) (below_alloc _ _)⟩

set_option maxHeartbeats 2000000 in
theorem errAs_pnilp (t : TypeId) (u : Value) (w : World) : Calls Tryd.prog 26 #[.iface t u, .iface 60 (.pointer none)] w fun e w' => (∃ u x, e = .panicked [{ v := .iface u x, recovered := false }]) ∧ Below w.heap.size w w' := by
  have xV := @run_callFunc_extern Tryd.prog 40 _ (fun args => ReflectliteValue.unpack (args.getD 0 (.tuple #[]))) Tryd.func40 (by kernel_rfl) (by kernel_rfl) (by kernel_rfl) (by kernel_rfl)
  have xTy := @run_callFunc_extern Tryd.prog 41 _ (ReflectliteValue.methodAny (ReflectliteValue.valueError "reflectlite.Value.Type" 0) (fun t _ _ _ => ReflectliteType.toType t)) Tryd.func41 (by kernel_rfl) (by kernel_rfl) (by kernel_rfl) (by kernel_rfl)
  have xK := @run_callFunc_extern Tryd.prog 66 _ (ReflectliteType.abiMethod fun t => do pure (.int .u8 (← Rtype.kind t))) Tryd.func66 (by kernel_rfl) (by kernel_rfl) (by kernel_rfl) (by kernel_rfl)
  have xN := @run_callFunc_extern Tryd.prog 42 _ (ReflectliteValue.method (ReflectliteValue.valueError "reflectlite.Value.IsNil" 0) ReflectliteValue.isNil) Tryd.func42 (by kernel_rfl) (by kernel_rfl) (by kernel_rfl) (by kernel_rfl)
  have f1 := valueOfP
  have f2 := typeV
  have f3 := methKind
  have f4 := kindPV
  have n1 := isNilP ⟨w.heap.size, 0, none⟩ ((w.alloc (.cells #[.pointer none] 60)).alloc (.cells #[.pointer (some ⟨1, 60, none⟩), .pointer (some ⟨w.heap.size, 0, none⟩), .int .u64 150] 97)) (cell_keep (below_alloc _ _) (cell_of_heap (heap_top _ _ _ rfl) 0 rfl))
  go_enter Tryd.func26, Tryd.ntmps26
  go_wp2
  exact ⟨rfl, ⟨_, _, rfl⟩, below_after (below_alloc _ _) (below_alloc _ _)⟩

set_option maxHeartbeats 2000000 in
theorem errAs_pint (t : TypeId) (u : Value) (T : Addr) (w : World) (hg : ErrT w) : Calls Tryd.prog 26 #[.iface t u, .iface 68 (.pointer (some T))] w fun e w' => (∃ u x, e = .panicked [{ v := .iface u x, recovered := false }]) ∧ Below w.heap.size w w' := by
  have xV := @run_callFunc_extern Tryd.prog 40 _ (fun args => ReflectliteValue.unpack (args.getD 0 (.tuple #[]))) Tryd.func40 (by kernel_rfl) (by kernel_rfl) (by kernel_rfl) (by kernel_rfl)
  have xTy := @run_callFunc_extern Tryd.prog 41 _ (ReflectliteValue.methodAny (ReflectliteValue.valueError "reflectlite.Value.Type" 0) (fun t _ _ _ => ReflectliteType.toType t)) Tryd.func41 (by kernel_rfl) (by kernel_rfl) (by kernel_rfl) (by kernel_rfl)
  have xK := @run_callFunc_extern Tryd.prog 66 _ (ReflectliteType.abiMethod fun t => do pure (.int .u8 (← Rtype.kind t))) Tryd.func66 (by kernel_rfl) (by kernel_rfl) (by kernel_rfl) (by kernel_rfl)
  have xN := @run_callFunc_extern Tryd.prog 42 _ (ReflectliteValue.method (ReflectliteValue.valueError "reflectlite.Value.IsNil" 0) ReflectliteValue.isNil) Tryd.func42 (by kernel_rfl) (by kernel_rfl) (by kernel_rfl) (by kernel_rfl)
  have xE := @run_callFunc_extern Tryd.prog 91 _ (ReflectliteType.method ReflectliteType.elem) Tryd.func91 (by kernel_rfl) (by kernel_rfl) (by kernel_rfl) (by kernel_rfl)
  have xI := @run_callFunc_extern Tryd.prog 92 _ (ReflectliteType.relation "Implements" ReflectliteType.implements_) Tryd.func92 (by kernel_rfl) (by kernel_rfl) (by kernel_rfl) (by kernel_rfl)
  have hB2 : Below w.heap.size w ((w.alloc (.cells #[.pointer (some T)] 68)).alloc (.cells #[.pointer (some ⟨1, 68, none⟩), .pointer (some ⟨w.heap.size, 0, none⟩), .int .u64 150] 97)) := below_after (below_alloc _ _) (below_alloc _ _)
  have n1 := isNilI ⟨w.heap.size, 0, none⟩ T ((w.alloc (.cells #[.pointer (some T)] 68)).alloc (.cells #[.pointer (some ⟨1, 68, none⟩), .pointer (some ⟨w.heap.size, 0, none⟩), .int .u64 150] 97)) (cell_keep (below_alloc _ _) (cell_of_heap (heap_top _ _ _ rfl) 0 rfl))
  have g1 : ((w.alloc (.cells #[.pointer (some T)] 68)).alloc (.cells #[.pointer (some ⟨1, 68, none⟩), .pointer (some ⟨w.heap.size, 0, none⟩), .int .u64 150] 97)).cell? ⟨0, 0, none⟩ = some (.iface 126 (.agg #[.pointer (some ⟨1, 54, none⟩)])) := hg.keep hB2
  have f1 := valueOfI
  have f2 := typeI
  have f3 := methKind
  have f4 := methElem
  have f5 := methImplements
  have f6 := kindPI
  have f7 := kindEI
  have f8 := elemI
  have f9 := implementsI
  have HB2 := Lib.hid hB2
  clear hB2 hg
  go_enter Tryd.func26, Tryd.ntmps26
  go_wp2
  exact ⟨rfl, ⟨_, _, rfl⟩, HB2.out⟩


set_option maxHeartbeats 4000000 in
theorem asA_text (T S : Nat) (e : Addr) (old : Value) (w : World) (hT : w.heap[T]? = some (.cells #[old] 20 (0, 0))) (hS : w.cell? ⟨S, 0, none⟩ = some (.pointer (some ⟨T, 0, none⟩))) :
    Calls Tryd.prog 43 #[.iface 119 (.pointer (some e)), .iface 69 (.pointer (some ⟨T, 0, none⟩)), .agg #[.pointer (some ⟨1, 69, none⟩), .pointer (some ⟨S, 0, none⟩), .int .u64 150], .iface 126 (.agg #[.pointer (some ⟨1, 20, none⟩)])] w fun e w' => e = .returned (.bool true) ∧ w.grownBy w' (some T) := by
  have xT := @run_callFunc_extern Tryd.prog 48 _ (ReflectliteType.typeOf) Tryd.func48 (by kernel_rfl) (by kernel_rfl) (by kernel_rfl) (by kernel_rfl)
  have xA := @run_callFunc_extern Tryd.prog 89 _ (ReflectliteType.relation "AssignableTo" ReflectliteType.assignableTo) Tryd.func89 (by kernel_rfl) (by kernel_rfl) (by kernel_rfl) (by kernel_rfl)
  have xEV := @run_callFunc_extern Tryd.prog 49 _ (ReflectliteValue.method (ReflectliteValue.valueError "reflectlite.Value.Elem" 0) ReflectliteValue.elem) Tryd.func49 (by kernel_rfl) (by kernel_rfl) (by kernel_rfl) (by kernel_rfl)
  have xS := @run_callFunc_extern Tryd.prog 50 _ (ReflectliteValue.set) Tryd.func50 (by kernel_rfl) (by kernel_rfl) (by kernel_rfl) (by kernel_rfl)
  have xV := @run_callFunc_extern Tryd.prog 40 _ (fun args => ReflectliteValue.unpack (args.getD 0 (.tuple #[]))) Tryd.func40 (by kernel_rfl) (by kernel_rfl) (by kernel_rfl) (by kernel_rfl)
  have mA := methAssignableTo
  have tO := typeOf_text
  have aA := assignA_text
  have vO := valueOf_text
  have hB2 : Below w.heap.size w ((w.alloc (.cells #[.pointer (some ⟨1, 69, none⟩), .pointer (some ⟨S, 0, none⟩), .int .u64 150] 97)).alloc (.cells #[.pointer (some e)] 119)) := below_after (below_alloc _ _) (below_alloc _ _)
  have eV := elemVA ⟨S, 0, none⟩ ⟨T, 0, none⟩ (w.alloc (.cells #[.pointer (some ⟨1, 69, none⟩), .pointer (some ⟨S, 0, none⟩), .int .u64 150] 97)) (cell_keep (below_alloc _ _) hS)
  have sV := setA_text ⟨T, 0, none⟩ (w.heap.size + 1) e old ((w.alloc (.cells #[.pointer (some ⟨1, 69, none⟩), .pointer (some ⟨S, 0, none⟩), .int .u64 150] 97)).alloc (.cells #[.pointer (some e)] 119)) (cell_of_heap (heap_top _ _ _ (by simp)) 0 rfl) (cell_keep hB2 (cell_of_heap hT 0 rfl)) ((hB2.frozen (lt_of_heap hT)).trans (frozen_of_heap hT 0))
  have hput := put_target (y := .iface 119 (.pointer (some e))) hB2 hT
  have HP := Lib.hid hput.1
  clear hput hB2 hT hS
  go_enter Tryd.func43, Tryd.ntmps43
  go_wp2
  refine wp_loop_rounds 1 ?_
  rw [rounds_succ]
  go_wp2
  go_ret
  exact ⟨rfl, HP.out⟩

set_option maxHeartbeats 4000000 in
theorem asA_value (T S : Nat) (key : Int) (old : Value) (w : World) (hT : w.heap[T]? = some (.cells #[old] 20 (0, 0))) (hS : w.cell? ⟨S, 0, none⟩ = some (.pointer (some ⟨T, 0, none⟩))) :
    Calls Tryd.prog 43 #[.iface 50 (.agg #[.int .i64 key]), .iface 69 (.pointer (some ⟨T, 0, none⟩)), .agg #[.pointer (some ⟨1, 69, none⟩), .pointer (some ⟨S, 0, none⟩), .int .u64 150], .iface 126 (.agg #[.pointer (some ⟨1, 20, none⟩)])] w fun e w' => e = .returned (.bool true) ∧ w.grownBy w' (some T) := by
  have xT := @run_callFunc_extern Tryd.prog 48 _ (ReflectliteType.typeOf) Tryd.func48 (by kernel_rfl) (by kernel_rfl) (by kernel_rfl) (by kernel_rfl)
  have xA := @run_callFunc_extern Tryd.prog 89 _ (ReflectliteType.relation "AssignableTo" ReflectliteType.assignableTo) Tryd.func89 (by kernel_rfl) (by kernel_rfl) (by kernel_rfl) (by kernel_rfl)
  have xEV := @run_callFunc_extern Tryd.prog 49 _ (ReflectliteValue.method (ReflectliteValue.valueError "reflectlite.Value.Elem" 0) ReflectliteValue.elem) Tryd.func49 (by kernel_rfl) (by kernel_rfl) (by kernel_rfl) (by kernel_rfl)
  have xS := @run_callFunc_extern Tryd.prog 50 _ (ReflectliteValue.set) Tryd.func50 (by kernel_rfl) (by kernel_rfl) (by kernel_rfl) (by kernel_rfl)
  have xV := @run_callFunc_extern Tryd.prog 40 _ (fun args => ReflectliteValue.unpack (args.getD 0 (.tuple #[]))) Tryd.func40 (by kernel_rfl) (by kernel_rfl) (by kernel_rfl) (by kernel_rfl)
  have mA := methAssignableTo
  have tO := typeOf_value
  have aA := assignA_value
  have vO := valueOf_value
  have hB2 : Below w.heap.size w ((w.alloc (.cells #[.pointer (some ⟨1, 69, none⟩), .pointer (some ⟨S, 0, none⟩), .int .u64 150] 97)).alloc (.cells #[.int .i64 key] 50)) := below_after (below_alloc _ _) (below_alloc _ _)
  have eV := elemVA ⟨S, 0, none⟩ ⟨T, 0, none⟩ (w.alloc (.cells #[.pointer (some ⟨1, 69, none⟩), .pointer (some ⟨S, 0, none⟩), .int .u64 150] 97)) (cell_keep (below_alloc _ _) hS)
  have sV := setA_value ⟨T, 0, none⟩ (w.heap.size + 1) key old ((w.alloc (.cells #[.pointer (some ⟨1, 69, none⟩), .pointer (some ⟨S, 0, none⟩), .int .u64 150] 97)).alloc (.cells #[.int .i64 key] 50)) (cell_of_heap (heap_top _ _ _ (by simp)) 0 rfl) (cell_keep hB2 (cell_of_heap hT 0 rfl)) ((hB2.frozen (lt_of_heap hT)).trans (frozen_of_heap hT 0))
  have hput := put_target (y := .iface 50 (.agg #[.int .i64 key])) hB2 hT
  have HP := Lib.hid hput.1
  clear hput hB2 hT hS
  go_enter Tryd.func43, Tryd.ntmps43
  go_wp2
  refine wp_loop_rounds 1 ?_
  rw [rounds_succ]
  go_wp2
  go_ret
  exact ⟨rfl, HP.out⟩

set_option maxHeartbeats 4000000 in
theorem asA_list (T S : Nat) (i : Int) (c : Nat) (old : Value) (w : World) (hT : w.heap[T]? = some (.cells #[old] 20 (0, 0))) (hS : w.cell? ⟨S, 0, none⟩ = some (.pointer (some ⟨T, 0, none⟩))) :
    Calls Tryd.prog 43 #[.iface 80 (.agg #[.int .i64 i, .slice (some ⟨c, 0, none⟩) 1 1]), .iface 69 (.pointer (some ⟨T, 0, none⟩)), .agg #[.pointer (some ⟨1, 69, none⟩), .pointer (some ⟨S, 0, none⟩), .int .u64 150], .iface 126 (.agg #[.pointer (some ⟨1, 20, none⟩)])] w fun e w' => e = .returned (.bool true) ∧ w.grownBy w' (some T) := by
  have xT := @run_callFunc_extern Tryd.prog 48 _ (ReflectliteType.typeOf) Tryd.func48 (by kernel_rfl) (by kernel_rfl) (by kernel_rfl) (by kernel_rfl)
  have xA := @run_callFunc_extern Tryd.prog 89 _ (ReflectliteType.relation "AssignableTo" ReflectliteType.assignableTo) Tryd.func89 (by kernel_rfl) (by kernel_rfl) (by kernel_rfl) (by kernel_rfl)
  have xEV := @run_callFunc_extern Tryd.prog 49 _ (ReflectliteValue.method (ReflectliteValue.valueError "reflectlite.Value.Elem" 0) ReflectliteValue.elem) Tryd.func49 (by kernel_rfl) (by kernel_rfl) (by kernel_rfl) (by kernel_rfl)
  have xS := @run_callFunc_extern Tryd.prog 50 _ (ReflectliteValue.set) Tryd.func50 (by kernel_rfl) (by kernel_rfl) (by kernel_rfl) (by kernel_rfl)
  have xV := @run_callFunc_extern Tryd.prog 40 _ (fun args => ReflectliteValue.unpack (args.getD 0 (.tuple #[]))) Tryd.func40 (by kernel_rfl) (by kernel_rfl) (by kernel_rfl) (by kernel_rfl)
  have mA := methAssignableTo
  have tO := typeOf_list
  have aA := assignA_list
  have vO := valueOf_list
  have hB2 : Below w.heap.size w ((w.alloc (.cells #[.pointer (some ⟨1, 69, none⟩), .pointer (some ⟨S, 0, none⟩), .int .u64 150] 97)).alloc (.cells #[.int .i64 i, .slice (some ⟨c, 0, none⟩) 1 1] 80)) := below_after (below_alloc _ _) (below_alloc _ _)
  have eV := elemVA ⟨S, 0, none⟩ ⟨T, 0, none⟩ (w.alloc (.cells #[.pointer (some ⟨1, 69, none⟩), .pointer (some ⟨S, 0, none⟩), .int .u64 150] 97)) (cell_keep (below_alloc _ _) hS)
  have sV := setA_list ⟨T, 0, none⟩ (w.heap.size + 1) i c old ((w.alloc (.cells #[.pointer (some ⟨1, 69, none⟩), .pointer (some ⟨S, 0, none⟩), .int .u64 150] 97)).alloc (.cells #[.int .i64 i, .slice (some ⟨c, 0, none⟩) 1 1] 80)) (cell_of_heap (heap_top _ _ _ (by simp)) 0 rfl) (cell_of_heap (heap_top _ _ _ (by simp)) 1 rfl) (cell_keep hB2 (cell_of_heap hT 0 rfl)) ((hB2.frozen (lt_of_heap hT)).trans (frozen_of_heap hT 0))
  have hput := put_target (y := .iface 80 (.agg #[.int .i64 i, .slice (some ⟨c, 0, none⟩) 1 1])) hB2 hT
  have HP := Lib.hid hput.1
  clear hput hB2 hT hS
  go_enter Tryd.func43, Tryd.ntmps43
  go_wp2
  refine wp_loop_rounds 1 ?_
  rw [rounds_succ]
  go_wp2
  go_ret
  exact ⟨rfl, HP.out⟩

set_option maxHeartbeats 4000000 in
theorem asA_wrap (T S : Nat) (e : Addr) (old : Value) (w : World) (hT : w.heap[T]? = some (.cells #[old] 20 (0, 0))) (hS : w.cell? ⟨S, 0, none⟩ = some (.pointer (some ⟨T, 0, none⟩))) :
    Calls Tryd.prog 43 #[.iface 61 (.pointer (some e)), .iface 69 (.pointer (some ⟨T, 0, none⟩)), .agg #[.pointer (some ⟨1, 69, none⟩), .pointer (some ⟨S, 0, none⟩), .int .u64 150], .iface 126 (.agg #[.pointer (some ⟨1, 20, none⟩)])] w fun e w' => e = .returned (.bool true) ∧ w.grownBy w' (some T) := by
  have xT := @run_callFunc_extern Tryd.prog 48 _ (ReflectliteType.typeOf) Tryd.func48 (by kernel_rfl) (by kernel_rfl) (by kernel_rfl) (by kernel_rfl)
  have xA := @run_callFunc_extern Tryd.prog 89 _ (ReflectliteType.relation "AssignableTo" ReflectliteType.assignableTo) Tryd.func89 (by kernel_rfl) (by kernel_rfl) (by kernel_rfl) (by kernel_rfl)
  have xEV := @run_callFunc_extern Tryd.prog 49 _ (ReflectliteValue.method (ReflectliteValue.valueError "reflectlite.Value.Elem" 0) ReflectliteValue.elem) Tryd.func49 (by kernel_rfl) (by kernel_rfl) (by kernel_rfl) (by kernel_rfl)
  have xS := @run_callFunc_extern Tryd.prog 50 _ (ReflectliteValue.set) Tryd.func50 (by kernel_rfl) (by kernel_rfl) (by kernel_rfl) (by kernel_rfl)
  have xV := @run_callFunc_extern Tryd.prog 40 _ (fun args => ReflectliteValue.unpack (args.getD 0 (.tuple #[]))) Tryd.func40 (by kernel_rfl) (by kernel_rfl) (by kernel_rfl) (by kernel_rfl)
  have mA := methAssignableTo
  have tO := typeOf_wrap
  have aA := assignA_wrap
  have vO := valueOf_wrap
  have hB2 : Below w.heap.size w ((w.alloc (.cells #[.pointer (some ⟨1, 69, none⟩), .pointer (some ⟨S, 0, none⟩), .int .u64 150] 97)).alloc (.cells #[.pointer (some e)] 61)) := below_after (below_alloc _ _) (below_alloc _ _)
  have eV := elemVA ⟨S, 0, none⟩ ⟨T, 0, none⟩ (w.alloc (.cells #[.pointer (some ⟨1, 69, none⟩), .pointer (some ⟨S, 0, none⟩), .int .u64 150] 97)) (cell_keep (below_alloc _ _) hS)
  have sV := setA_wrap ⟨T, 0, none⟩ (w.heap.size + 1) e old ((w.alloc (.cells #[.pointer (some ⟨1, 69, none⟩), .pointer (some ⟨S, 0, none⟩), .int .u64 150] 97)).alloc (.cells #[.pointer (some e)] 61)) (cell_of_heap (heap_top _ _ _ (by simp)) 0 rfl) (cell_keep hB2 (cell_of_heap hT 0 rfl)) ((hB2.frozen (lt_of_heap hT)).trans (frozen_of_heap hT 0))
  have hput := put_target (y := .iface 61 (.pointer (some e))) hB2 hT
  have HP := Lib.hid hput.1
  clear hput hB2 hT hS
  go_enter Tryd.func43, Tryd.ntmps43
  go_wp2
  refine wp_loop_rounds 1 ?_
  rw [rounds_succ]
  go_wp2
  go_ret
  exact ⟨rfl, HP.out⟩

set_option maxHeartbeats 4000000 in
theorem asA_many (T S : Nat) (e : Addr) (old : Value) (w : World) (hT : w.heap[T]? = some (.cells #[old] 20 (0, 0))) (hS : w.cell? ⟨S, 0, none⟩ = some (.pointer (some ⟨T, 0, none⟩))) :
    Calls Tryd.prog 43 #[.iface 84 (.pointer (some e)), .iface 69 (.pointer (some ⟨T, 0, none⟩)), .agg #[.pointer (some ⟨1, 69, none⟩), .pointer (some ⟨S, 0, none⟩), .int .u64 150], .iface 126 (.agg #[.pointer (some ⟨1, 20, none⟩)])] w fun e w' => e = .returned (.bool true) ∧ w.grownBy w' (some T) := by
  have xT := @run_callFunc_extern Tryd.prog 48 _ (ReflectliteType.typeOf) Tryd.func48 (by kernel_rfl) (by kernel_rfl) (by kernel_rfl) (by kernel_rfl)
  have xA := @run_callFunc_extern Tryd.prog 89 _ (ReflectliteType.relation "AssignableTo" ReflectliteType.assignableTo) Tryd.func89 (by kernel_rfl) (by kernel_rfl) (by kernel_rfl) (by kernel_rfl)
  have xEV := @run_callFunc_extern Tryd.prog 49 _ (ReflectliteValue.method (ReflectliteValue.valueError "reflectlite.Value.Elem" 0) ReflectliteValue.elem) Tryd.func49 (by kernel_rfl) (by kernel_rfl) (by kernel_rfl) (by kernel_rfl)
  have xS := @run_callFunc_extern Tryd.prog 50 _ (ReflectliteValue.set) Tryd.func50 (by kernel_rfl) (by kernel_rfl) (by kernel_rfl) (by kernel_rfl)
  have xV := @run_callFunc_extern Tryd.prog 40 _ (fun args => ReflectliteValue.unpack (args.getD 0 (.tuple #[]))) Tryd.func40 (by kernel_rfl) (by kernel_rfl) (by kernel_rfl) (by kernel_rfl)
  have mA := methAssignableTo
  have tO := typeOf_many
  have aA := assignA_many
  have vO := valueOf_many
  have hB2 : Below w.heap.size w ((w.alloc (.cells #[.pointer (some ⟨1, 69, none⟩), .pointer (some ⟨S, 0, none⟩), .int .u64 150] 97)).alloc (.cells #[.pointer (some e)] 84)) := below_after (below_alloc _ _) (below_alloc _ _)
  have eV := elemVA ⟨S, 0, none⟩ ⟨T, 0, none⟩ (w.alloc (.cells #[.pointer (some ⟨1, 69, none⟩), .pointer (some ⟨S, 0, none⟩), .int .u64 150] 97)) (cell_keep (below_alloc _ _) hS)
  have sV := setA_many ⟨T, 0, none⟩ (w.heap.size + 1) e old ((w.alloc (.cells #[.pointer (some ⟨1, 69, none⟩), .pointer (some ⟨S, 0, none⟩), .int .u64 150] 97)).alloc (.cells #[.pointer (some e)] 84)) (cell_of_heap (heap_top _ _ _ (by simp)) 0 rfl) (cell_keep hB2 (cell_of_heap hT 0 rfl)) ((hB2.frozen (lt_of_heap hT)).trans (frozen_of_heap hT 0))
  have hput := put_target (y := .iface 84 (.pointer (some e))) hB2 hT
  have HP := Lib.hid hput.1
  clear hput hB2 hT hS
  go_enter Tryd.func43, Tryd.ntmps43
  go_wp2
  refine wp_loop_rounds 1 ?_
  rw [rounds_succ]
  go_wp2
  go_ret
  exact ⟨rfl, HP.out⟩

set_option maxHeartbeats 4000000 in
theorem asA_join (T S : Nat) (e : Addr) (old : Value) (w : World) (hT : w.heap[T]? = some (.cells #[old] 20 (0, 0))) (hS : w.cell? ⟨S, 0, none⟩ = some (.pointer (some ⟨T, 0, none⟩))) :
    Calls Tryd.prog 43 #[.iface 122 (.pointer (some e)), .iface 69 (.pointer (some ⟨T, 0, none⟩)), .agg #[.pointer (some ⟨1, 69, none⟩), .pointer (some ⟨S, 0, none⟩), .int .u64 150], .iface 126 (.agg #[.pointer (some ⟨1, 20, none⟩)])] w fun e w' => e = .returned (.bool true) ∧ w.grownBy w' (some T) := by
  have xT := @run_callFunc_extern Tryd.prog 48 _ (ReflectliteType.typeOf) Tryd.func48 (by kernel_rfl) (by kernel_rfl) (by kernel_rfl) (by kernel_rfl)
  have xA := @run_callFunc_extern Tryd.prog 89 _ (ReflectliteType.relation "AssignableTo" ReflectliteType.assignableTo) Tryd.func89 (by kernel_rfl) (by kernel_rfl) (by kernel_rfl) (by kernel_rfl)
  have xEV := @run_callFunc_extern Tryd.prog 49 _ (ReflectliteValue.method (ReflectliteValue.valueError "reflectlite.Value.Elem" 0) ReflectliteValue.elem) Tryd.func49 (by kernel_rfl) (by kernel_rfl) (by kernel_rfl) (by kernel_rfl)
  have xS := @run_callFunc_extern Tryd.prog 50 _ (ReflectliteValue.set) Tryd.func50 (by kernel_rfl) (by kernel_rfl) (by kernel_rfl) (by kernel_rfl)
  have xV := @run_callFunc_extern Tryd.prog 40 _ (fun args => ReflectliteValue.unpack (args.getD 0 (.tuple #[]))) Tryd.func40 (by kernel_rfl) (by kernel_rfl) (by kernel_rfl) (by kernel_rfl)
  have mA := methAssignableTo
  have tO := typeOf_join
  have aA := assignA_join
  have vO := valueOf_join
  have hB2 : Below w.heap.size w ((w.alloc (.cells #[.pointer (some ⟨1, 69, none⟩), .pointer (some ⟨S, 0, none⟩), .int .u64 150] 97)).alloc (.cells #[.pointer (some e)] 122)) := below_after (below_alloc _ _) (below_alloc _ _)
  have eV := elemVA ⟨S, 0, none⟩ ⟨T, 0, none⟩ (w.alloc (.cells #[.pointer (some ⟨1, 69, none⟩), .pointer (some ⟨S, 0, none⟩), .int .u64 150] 97)) (cell_keep (below_alloc _ _) hS)
  have sV := setA_join ⟨T, 0, none⟩ (w.heap.size + 1) e old ((w.alloc (.cells #[.pointer (some ⟨1, 69, none⟩), .pointer (some ⟨S, 0, none⟩), .int .u64 150] 97)).alloc (.cells #[.pointer (some e)] 122)) (cell_of_heap (heap_top _ _ _ (by simp)) 0 rfl) (cell_keep hB2 (cell_of_heap hT 0 rfl)) ((hB2.frozen (lt_of_heap hT)).trans (frozen_of_heap hT 0))
  have hput := put_target (y := .iface 122 (.pointer (some e))) hB2 hT
  have HP := Lib.hid hput.1
  clear hput hB2 hT hS
  go_enter Tryd.func43, Tryd.ntmps43
  go_wp2
  refine wp_loop_rounds 1 ?_
  rw [rounds_succ]
  go_wp2
  go_ret
  exact ⟨rfl, HP.out⟩

set_option maxHeartbeats 4000000 in
theorem asA_alike (T S : Nat) (e : Addr) (old : Value) (w : World) (hT : w.heap[T]? = some (.cells #[old] 20 (0, 0))) (hS : w.cell? ⟨S, 0, none⟩ = some (.pointer (some ⟨T, 0, none⟩))) :
    Calls Tryd.prog 43 #[.iface 89 (.pointer (some e)), .iface 69 (.pointer (some ⟨T, 0, none⟩)), .agg #[.pointer (some ⟨1, 69, none⟩), .pointer (some ⟨S, 0, none⟩), .int .u64 150], .iface 126 (.agg #[.pointer (some ⟨1, 20, none⟩)])] w fun e w' => e = .returned (.bool true) ∧ w.grownBy w' (some T) := by
  have xT := @run_callFunc_extern Tryd.prog 48 _ (ReflectliteType.typeOf) Tryd.func48 (by kernel_rfl) (by kernel_rfl) (by kernel_rfl) (by kernel_rfl)
  have xA := @run_callFunc_extern Tryd.prog 89 _ (ReflectliteType.relation "AssignableTo" ReflectliteType.assignableTo) Tryd.func89 (by kernel_rfl) (by kernel_rfl) (by kernel_rfl) (by kernel_rfl)
  have xEV := @run_callFunc_extern Tryd.prog 49 _ (ReflectliteValue.method (ReflectliteValue.valueError "reflectlite.Value.Elem" 0) ReflectliteValue.elem) Tryd.func49 (by kernel_rfl) (by kernel_rfl) (by kernel_rfl) (by kernel_rfl)
  have xS := @run_callFunc_extern Tryd.prog 50 _ (ReflectliteValue.set) Tryd.func50 (by kernel_rfl) (by kernel_rfl) (by kernel_rfl) (by kernel_rfl)
  have xV := @run_callFunc_extern Tryd.prog 40 _ (fun args => ReflectliteValue.unpack (args.getD 0 (.tuple #[]))) Tryd.func40 (by kernel_rfl) (by kernel_rfl) (by kernel_rfl) (by kernel_rfl)
  have mA := methAssignableTo
  have tO := typeOf_alike
  have aA := assignA_alike
  have vO := valueOf_alike
  have hB2 : Below w.heap.size w ((w.alloc (.cells #[.pointer (some ⟨1, 69, none⟩), .pointer (some ⟨S, 0, none⟩), .int .u64 150] 97)).alloc (.cells #[.pointer (some e)] 89)) := below_after (below_alloc _ _) (below_alloc _ _)
  have eV := elemVA ⟨S, 0, none⟩ ⟨T, 0, none⟩ (w.alloc (.cells #[.pointer (some ⟨1, 69, none⟩), .pointer (some ⟨S, 0, none⟩), .int .u64 150] 97)) (cell_keep (below_alloc _ _) hS)
  have sV := setA_alike ⟨T, 0, none⟩ (w.heap.size + 1) e old ((w.alloc (.cells #[.pointer (some ⟨1, 69, none⟩), .pointer (some ⟨S, 0, none⟩), .int .u64 150] 97)).alloc (.cells #[.pointer (some e)] 89)) (cell_of_heap (heap_top _ _ _ (by simp)) 0 rfl) (cell_keep hB2 (cell_of_heap hT 0 rfl)) ((hB2.frozen (lt_of_heap hT)).trans (frozen_of_heap hT 0))
  have hput := put_target (y := .iface 89 (.pointer (some e))) hB2 hT
  have HP := Lib.hid hput.1
  clear hput hB2 hT hS
  go_enter Tryd.func43, Tryd.ntmps43
  go_wp2
  refine wp_loop_rounds 1 ?_
  rw [rounds_succ]
  go_wp2
  go_ret
  exact ⟨rfl, HP.out⟩

set_option maxHeartbeats 4000000 in
theorem asA_acts (T S : Nat) (e : Addr) (old : Value) (w : World) (hT : w.heap[T]? = some (.cells #[old] 20 (0, 0))) (hS : w.cell? ⟨S, 0, none⟩ = some (.pointer (some ⟨T, 0, none⟩))) :
    Calls Tryd.prog 43 #[.iface 92 (.pointer (some e)), .iface 69 (.pointer (some ⟨T, 0, none⟩)), .agg #[.pointer (some ⟨1, 69, none⟩), .pointer (some ⟨S, 0, none⟩), .int .u64 150], .iface 126 (.agg #[.pointer (some ⟨1, 20, none⟩)])] w fun e w' => e = .returned (.bool true) ∧ w.grownBy w' (some T) := by
  have xT := @run_callFunc_extern Tryd.prog 48 _ (ReflectliteType.typeOf) Tryd.func48 (by kernel_rfl) (by kernel_rfl) (by kernel_rfl) (by kernel_rfl)
  have xA := @run_callFunc_extern Tryd.prog 89 _ (ReflectliteType.relation "AssignableTo" ReflectliteType.assignableTo) Tryd.func89 (by kernel_rfl) (by kernel_rfl) (by kernel_rfl) (by kernel_rfl)
  have xEV := @run_callFunc_extern Tryd.prog 49 _ (ReflectliteValue.method (ReflectliteValue.valueError "reflectlite.Value.Elem" 0) ReflectliteValue.elem) Tryd.func49 (by kernel_rfl) (by kernel_rfl) (by kernel_rfl) (by kernel_rfl)
  have xS := @run_callFunc_extern Tryd.prog 50 _ (ReflectliteValue.set) Tryd.func50 (by kernel_rfl) (by kernel_rfl) (by kernel_rfl) (by kernel_rfl)
  have xV := @run_callFunc_extern Tryd.prog 40 _ (fun args => ReflectliteValue.unpack (args.getD 0 (.tuple #[]))) Tryd.func40 (by kernel_rfl) (by kernel_rfl) (by kernel_rfl) (by kernel_rfl)
  have mA := methAssignableTo
  have tO := typeOf_acts
  have aA := assignA_acts
  have vO := valueOf_acts
  have hB2 : Below w.heap.size w ((w.alloc (.cells #[.pointer (some ⟨1, 69, none⟩), .pointer (some ⟨S, 0, none⟩), .int .u64 150] 97)).alloc (.cells #[.pointer (some e)] 92)) := below_after (below_alloc _ _) (below_alloc _ _)
  have eV := elemVA ⟨S, 0, none⟩ ⟨T, 0, none⟩ (w.alloc (.cells #[.pointer (some ⟨1, 69, none⟩), .pointer (some ⟨S, 0, none⟩), .int .u64 150] 97)) (cell_keep (below_alloc _ _) hS)
  have sV := setA_acts ⟨T, 0, none⟩ (w.heap.size + 1) e old ((w.alloc (.cells #[.pointer (some ⟨1, 69, none⟩), .pointer (some ⟨S, 0, none⟩), .int .u64 150] 97)).alloc (.cells #[.pointer (some e)] 92)) (cell_of_heap (heap_top _ _ _ (by simp)) 0 rfl) (cell_keep hB2 (cell_of_heap hT 0 rfl)) ((hB2.frozen (lt_of_heap hT)).trans (frozen_of_heap hT 0))
  have hput := put_target (y := .iface 92 (.pointer (some e))) hB2 hT
  have HP := Lib.hid hput.1
  clear hput hB2 hT hS
  go_enter Tryd.func43, Tryd.ntmps43
  go_wp2
  refine wp_loop_rounds 1 ?_
  rw [rounds_succ]
  go_wp2
  go_ret
  exact ⟨rfl, HP.out⟩

theorem asA_any {w0 : World} {ns : List Nd} {adr : Nat → Nat} {sl : Nat → Value} {base : Nat} (T S i : Nat) (old : Value) (w : World) (L : Lies w0 ns adr sl base 0) (h : isThere ns i = true) (hT : w.heap[T]? = some (.cells #[old] 20 (0, 0))) (hS : w.cell? ⟨S, 0, none⟩ = some (.pointer (some ⟨T, 0, none⟩))) :
    Calls Tryd.prog 43 #[valOf ns adr sl i, .iface 69 (.pointer (some ⟨T, 0, none⟩)), .agg #[.pointer (some ⟨1, 69, none⟩), .pointer (some ⟨S, 0, none⟩), .int .u64 150], .iface 126 (.agg #[.pointer (some ⟨1, 20, none⟩)])] w fun e w' => e = .returned (.bool true) ∧ w.grownBy w' (some T) := by
  obtain ⟨nd, k, hn, hk⟩ := isThere_kind h
  have hm := L.mem i nd k (Nat.zero_le _) hn h hk
  rw [valOf_there h hn hk]
  cases k
  case list =>
    obtain ⟨c, hc⟩ := hm
    simp only [errBy, hc]
    exact asA_list T S _ c old w hT hS
  case text => exact asA_text T S _ old w hT hS
  case value => exact asA_value T S _ old w hT hS
  case wrap => exact asA_wrap T S _ old w hT hS
  case many => exact asA_many T S _ old w hT hS
  case join => exact asA_join T S _ old w hT hS
  case alike => exact asA_alike T S _ old w hT hS
  case acts => exact asA_acts T S _ old w hT hS

set_option maxRecDepth 100000 in
set_option maxHeartbeats 4000000 in
theorem errAsA {w : World} {ns : List Nd} {adr : Nat → Nat} {sl : Nat → Value} {base : Nat} (T : Nat) (old : Value) (L : Lies w ns adr sl base 0) (h : isThere ns 0 = true) (hT : w.heap[T]? = some (.cells #[old] 20 (0, 0))) :
    Calls Tryd.prog 26 #[valOf ns adr sl 0, .iface 69 (.pointer (some ⟨T, 0, none⟩))] w fun e w' => e = .returned (.bool true) ∧ w.grownBy w' (some T) := by
  have xV := @run_callFunc_extern Tryd.prog 40 _ (fun args => ReflectliteValue.unpack (args.getD 0 (.tuple #[]))) Tryd.func40 (by kernel_rfl) (by kernel_rfl) (by kernel_rfl) (by kernel_rfl)
  have xTy := @run_callFunc_extern Tryd.prog 41 _ (ReflectliteValue.methodAny (ReflectliteValue.valueError "reflectlite.Value.Type" 0) (fun t _ _ _ => ReflectliteType.toType t)) Tryd.func41 (by kernel_rfl) (by kernel_rfl) (by kernel_rfl) (by kernel_rfl)
  have xN := @run_callFunc_extern Tryd.prog 42 _ (ReflectliteValue.method (ReflectliteValue.valueError "reflectlite.Value.IsNil" 0) ReflectliteValue.isNil) Tryd.func42 (by kernel_rfl) (by kernel_rfl) (by kernel_rfl) (by kernel_rfl)
  have xK := @run_callFunc_extern Tryd.prog 66 _ (ReflectliteType.abiMethod fun t => do pure (.int .u8 (← Rtype.kind t))) Tryd.func66 (by kernel_rfl) (by kernel_rfl) (by kernel_rfl) (by kernel_rfl)
  have xE := @run_callFunc_extern Tryd.prog 91 _ (ReflectliteType.method ReflectliteType.elem) Tryd.func91 (by kernel_rfl) (by kernel_rfl) (by kernel_rfl) (by kernel_rfl)
  have hS0 : ((w.alloc (.cells #[.pointer (some ⟨T, 0, none⟩)] 69)).alloc (.cells #[.pointer (some ⟨1, 69, none⟩), .pointer (some ⟨w.heap.size, 0, none⟩), .int .u64 150] 97)).cell? ⟨w.heap.size, 0, none⟩ = some (.pointer (some ⟨T, 0, none⟩)) := cell_keep (below_alloc _ _) (cell_of_heap (heap_top _ _ _ rfl) 0 rfl)
  have hB2 : Below w.heap.size w ((w.alloc (.cells #[.pointer (some ⟨T, 0, none⟩)] 69)).alloc (.cells #[.pointer (some ⟨1, 69, none⟩), .pointer (some ⟨w.heap.size, 0, none⟩), .int .u64 150] 97)) := below_after (below_alloc _ _) (below_alloc _ _)
  have hc := asA_any T w.heap.size 0 old ((w.alloc (.cells #[.pointer (some ⟨T, 0, none⟩)] 69)).alloc (.cells #[.pointer (some ⟨1, 69, none⟩), .pointer (some ⟨w.heap.size, 0, none⟩), .int .u64 150] 97)) L h (heap_keep hB2 hT) hS0
  have n1 := isNilA ⟨w.heap.size, 0, none⟩ ⟨T, 0, none⟩ ((w.alloc (.cells #[.pointer (some ⟨T, 0, none⟩)] 69)).alloc (.cells #[.pointer (some ⟨1, 69, none⟩), .pointer (some ⟨w.heap.size, 0, none⟩), .int .u64 150] 97)) hS0
  obtain ⟨t, u, hv⟩ := valOf_iface (adr := adr) (sl := sl) h
  rw [hv] at hc ⊢
  have f1 := valueOfA
  have f2 := typeA
  have f3 := methKind
  have f4 := methElem
  have f6 := kindPA
  have f7 := kindEA
  have f8 := elemA
  have HC := Lib.hid hc
  have HB2 := Lib.hid hB2
  clear hc hB2 L h hv hT hS0
  go_enter Tryd.func26, Tryd.ntmps26
  go_wp2_with (go_at_call 43; refine HC.out.mono ?_; rintro e w3 ⟨rfl, hp⟩)
  go_ret
  exact ⟨rfl, gB_before HB2.out hp⟩
end Go.Proofs.YtccoeajjomfmnaaDoor
