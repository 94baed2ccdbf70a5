/-
  The contracts of errors.As with a target of the types *value and **wrap, and of impl.AsValueTo and impl.AsWrapTo.
  Conditions: the variable errors.errorType holds the handle of the type error; at most 2^36 nodes with at most 2^36 kids each.
-/
import Derived.Test.YtccoeajjomfmnaaDoorAsToV
import Derived.Test.YtccoeajjomfmnaaDoorAsToW
namespace Go.Proofs.YtccoeajjomfmnaaDoor
open Go.RowKit Go.Lib Go.Extern.Stop Go.Stop Go.Extern

/-- The variable errors.errorType holds the handle of the type error. -/
def ErrT (w : World) : Prop := w.cell? ⟨0, 0, none⟩ = some (.iface 126 (.agg #[.pointer (some ⟨1, 54, none⟩)]))
theorem ErrT.keep {w w' : World} (h : ErrT w) (hb : Below w.heap.size w w') : ErrT w' := cell_keep hb h

theorem errAs_nil (t : Value) (w : World) : Calls Tryd.prog 26 #[.nilIface, t] w fun e w' => e = .returned (.bool false) ∧ w' = w := by
  go_enter Tryd.func26, Tryd.ntmps26
  go_wp2
  go_ret
  exact ⟨rfl, rfl⟩


set_option maxRecDepth 100000 in
set_option maxHeartbeats 4000000 in
theorem errAsV {w : World} {ns : List Nd} {adr : Nat → Nat} {sl : Nat → Value} {base : Nat} (T : Nat) (x : Int) (L : Lies w ns adr sl base 0) (h : isThere ns 0 = true) (hg : ErrT w) (hT : w.heap[T]? = some (.cells #[.int .i64 x] 50 (0, 0))) :
    Calls Tryd.prog 26 #[valOf ns adr sl 0, .iface 60 (.pointer (some ⟨T, 0, none⟩))] w fun e w' => e = .returned (.bool ((treeOf ns 0).findSome? (cellV ns)).isSome) ∧ AsToPost T 50 ((treeOf ns 0).findSome? (cellV ns)) w w' := by
  have xV := @run_callFunc_extern Tryd.prog 40 _ (fun args => ReflectliteValue.unpack (args.getD 0 (.tuple #[]))) Tryd.func40 (by kernel_rfl) (by kernel_rfl) (by kernel_rfl) (by kernel_rfl)
  have xTy := @run_callFunc_extern Tryd.prog 41 _ (ReflectliteValue.methodAny (ReflectliteValue.valueError "reflectlite.Value.Type" 0) (fun t _ _ _ => ReflectliteType.toType t)) Tryd.func41 (by kernel_rfl) (by kernel_rfl) (by kernel_rfl) (by kernel_rfl)
  have xN := @run_callFunc_extern Tryd.prog 42 _ (ReflectliteValue.method (ReflectliteValue.valueError "reflectlite.Value.IsNil" 0) ReflectliteValue.isNil) Tryd.func42 (by kernel_rfl) (by kernel_rfl) (by kernel_rfl) (by kernel_rfl)
  have xK := @run_callFunc_extern Tryd.prog 66 _ (ReflectliteType.abiMethod fun t => do pure (.int .u8 (← Rtype.kind t))) Tryd.func66 (by kernel_rfl) (by kernel_rfl) (by kernel_rfl) (by kernel_rfl)
  have xE := @run_callFunc_extern Tryd.prog 91 _ (ReflectliteType.method ReflectliteType.elem) Tryd.func91 (by kernel_rfl) (by kernel_rfl) (by kernel_rfl) (by kernel_rfl)
  have xI := @run_callFunc_extern Tryd.prog 92 _ (ReflectliteType.relation "Implements" ReflectliteType.implements_) Tryd.func92 (by kernel_rfl) (by kernel_rfl) (by kernel_rfl) (by kernel_rfl)
  have hS0 : ((w.alloc (.cells #[.pointer (some ⟨T, 0, none⟩)] 60)).alloc (.cells #[.pointer (some ⟨1, 60, none⟩), .pointer (some ⟨w.heap.size, 0, none⟩), .int .u64 150] 97)).cell? ⟨w.heap.size, 0, none⟩ = some (.pointer (some ⟨T, 0, none⟩)) := cell_keep (below_alloc _ _) (cell_of_heap (heap_top _ _ _ rfl) 0 rfl)
  have hB2 : Below w.heap.size w ((w.alloc (.cells #[.pointer (some ⟨T, 0, none⟩)] 60)).alloc (.cells #[.pointer (some ⟨1, 60, none⟩), .pointer (some ⟨w.heap.size, 0, none⟩), .int .u64 150] 97)) := below_after (below_alloc _ _) (below_alloc _ _)
  have hc := asToV_any T w.heap.size x L ns.length 0 ((w.alloc (.cells #[.pointer (some ⟨T, 0, none⟩)] 60)).alloc (.cells #[.pointer (some ⟨1, 60, none⟩), .pointer (some ⟨w.heap.size, 0, none⟩), .int .u64 150] 97)) (by omega) h hB2 (heap_keep hB2 hT) hS0
  have n1 := isNilV ⟨w.heap.size, 0, none⟩ ⟨T, 0, none⟩ ((w.alloc (.cells #[.pointer (some ⟨T, 0, none⟩)] 60)).alloc (.cells #[.pointer (some ⟨1, 60, none⟩), .pointer (some ⟨w.heap.size, 0, none⟩), .int .u64 150] 97)) hS0
  have g1 : ((w.alloc (.cells #[.pointer (some ⟨T, 0, none⟩)] 60)).alloc (.cells #[.pointer (some ⟨1, 60, none⟩), .pointer (some ⟨w.heap.size, 0, none⟩), .int .u64 150] 97)).cell? ⟨0, 0, none⟩ = some (.iface 126 (.agg #[.pointer (some ⟨1, 54, none⟩)])) := hg.keep hB2
  obtain ⟨t, u, hv⟩ := valOf_iface (adr := adr) (sl := sl) h
  rw [hv] at hc ⊢
  have f1 := valueOfV
  have f2 := typeV
  have f3 := methKind
  have f4 := methElem
  have f5 := methImplements
  have f6 := kindPV
  have f7 := kindEV
  have f8 := elemV
  have f9 := implementsV
  have HC := Lib.hid hc
  have HB2 := Lib.hid hB2
  generalize hO : (treeOf ns 0).findSome? (cellV ns) = o at *
  clear hO hc hB2 L h hv hg hT hS0
  go_enter Tryd.func26, Tryd.ntmps26
  go_wp2_with (go_at_call 43; refine HC.out.mono ?_; rintro e w3 ⟨rfl, hp⟩)
  go_ret
  exact ⟨rfl, hp.after HB2.out⟩


set_option maxRecDepth 100000 in
set_option maxHeartbeats 4000000 in
theorem errAsW {w : World} {ns : List Nd} {adr : Nat → Nat} {sl : Nat → Value} {base : Nat} (T : Nat) (L : Lies w ns adr sl base 0) (h : isThere ns 0 = true) (hg : ErrT w) (hT : w.heap[T]? = some (.cells #[.pointer none] 61 (0, 0))) :
    Calls Tryd.prog 26 #[valOf ns adr sl 0, .iface 65 (.pointer (some ⟨T, 0, none⟩))] w fun e w' => e = .returned (.bool ((treeOf ns 0).findSome? (hitW ns adr)).isSome) ∧ AsToPost T 61 ((treeOf ns 0).findSome? (hitW ns adr)) w w' := by
  have xV := @run_callFunc_extern Tryd.prog 40 _ (fun args => ReflectliteValue.unpack (args.getD 0 (.tuple #[]))) Tryd.func40 (by kernel_rfl) (by kernel_rfl) (by kernel_rfl) (by kernel_rfl)
  have xTy := @run_callFunc_extern Tryd.prog 41 _ (ReflectliteValue.methodAny (ReflectliteValue.valueError "reflectlite.Value.Type" 0) (fun t _ _ _ => ReflectliteType.toType t)) Tryd.func41 (by kernel_rfl) (by kernel_rfl) (by kernel_rfl) (by kernel_rfl)
  have xN := @run_callFunc_extern Tryd.prog 42 _ (ReflectliteValue.method (ReflectliteValue.valueError "reflectlite.Value.IsNil" 0) ReflectliteValue.isNil) Tryd.func42 (by kernel_rfl) (by kernel_rfl) (by kernel_rfl) (by kernel_rfl)
  have xK := @run_callFunc_extern Tryd.prog 66 _ (ReflectliteType.abiMethod fun t => do pure (.int .u8 (← Rtype.kind t))) Tryd.func66 (by kernel_rfl) (by kernel_rfl) (by kernel_rfl) (by kernel_rfl)
  have xE := @run_callFunc_extern Tryd.prog 91 _ (ReflectliteType.method ReflectliteType.elem) Tryd.func91 (by kernel_rfl) (by kernel_rfl) (by kernel_rfl) (by kernel_rfl)
  have xI := @run_callFunc_extern Tryd.prog 92 _ (ReflectliteType.relation "Implements" ReflectliteType.implements_) Tryd.func92 (by kernel_rfl) (by kernel_rfl) (by kernel_rfl) (by kernel_rfl)
  have hS0 : ((w.alloc (.cells #[.pointer (some ⟨T, 0, none⟩)] 65)).alloc (.cells #[.pointer (some ⟨1, 65, none⟩), .pointer (some ⟨w.heap.size, 0, none⟩), .int .u64 150] 97)).cell? ⟨w.heap.size, 0, none⟩ = some (.pointer (some ⟨T, 0, none⟩)) := cell_keep (below_alloc _ _) (cell_of_heap (heap_top _ _ _ rfl) 0 rfl)
  have hB2 : Below w.heap.size w ((w.alloc (.cells #[.pointer (some ⟨T, 0, none⟩)] 65)).alloc (.cells #[.pointer (some ⟨1, 65, none⟩), .pointer (some ⟨w.heap.size, 0, none⟩), .int .u64 150] 97)) := below_after (below_alloc _ _) (below_alloc _ _)
  have hc := asToW_any T w.heap.size L ns.length 0 ((w.alloc (.cells #[.pointer (some ⟨T, 0, none⟩)] 65)).alloc (.cells #[.pointer (some ⟨1, 65, none⟩), .pointer (some ⟨w.heap.size, 0, none⟩), .int .u64 150] 97)) (by omega) h hB2 (heap_keep hB2 hT) hS0
  have n1 := isNilW ⟨w.heap.size, 0, none⟩ ⟨T, 0, none⟩ ((w.alloc (.cells #[.pointer (some ⟨T, 0, none⟩)] 65)).alloc (.cells #[.pointer (some ⟨1, 65, none⟩), .pointer (some ⟨w.heap.size, 0, none⟩), .int .u64 150] 97)) hS0
  have g1 : ((w.alloc (.cells #[.pointer (some ⟨T, 0, none⟩)] 65)).alloc (.cells #[.pointer (some ⟨1, 65, none⟩), .pointer (some ⟨w.heap.size, 0, none⟩), .int .u64 150] 97)).cell? ⟨0, 0, none⟩ = some (.iface 126 (.agg #[.pointer (some ⟨1, 54, none⟩)])) := hg.keep hB2
  obtain ⟨t, u, hv⟩ := valOf_iface (adr := adr) (sl := sl) h
  rw [hv] at hc ⊢
  have f1 := valueOfW
  have f2 := typeW
  have f3 := methKind
  have f4 := methElem
  have f5 := methImplements
  have f6 := kindPW
  have f7 := kindEW
  have f8 := elemW
  have f9 := implementsW
  have HC := Lib.hid hc
  have HB2 := Lib.hid hB2
  generalize hO : (treeOf ns 0).findSome? (hitW ns adr) = o at *
  clear hO hc hB2 L h hv hg hT hS0
  go_enter Tryd.func26, Tryd.ntmps26
  go_wp2_with (go_at_call 43; refine HC.out.mono ?_; rintro e w3 ⟨rfl, hp⟩)
  go_ret
  exact ⟨rfl, hp.after HB2.out⟩


theorem found_cellV {ns : List Nd} (h : isThere ns 0 = true) : (treeOf ns 0).findSome? (cellV ns) = (asKey ns).map (Value.int .i64) := by
  unfold asKey
  rw [rootTree_there h]
  exact findSome_map _ _ _

set_option maxHeartbeats 2000000 in
theorem implAsValueTo (v : Value) (ns : List Nd) (kv : Nat → Value) (before : Int) (w : World) (h : Nodes w v ns kv) (hg : ErrT w) (hn : ns.length ≤ 68719476736) (hk : ∀ nd ∈ ns, nd.kids.length ≤ 68719476736) :
    Calls Tryd.prog 11 #[v, .int .i64 before] w fun e w' => e = .returned (.tuple #[.int .i64 ((asKey ns).getD before), .bool (asKey ns).isSome]) ∧ Below w.heap.size w w' := by
  obtain ⟨A, cap, rfl, _, _⟩ := h.form
  have HM := Lib.hid (made_any _ ns kv (w.alloc (.cells #[.int .i64 before] 50)) (h.keep (below_alloc _ _)) hn hk)
  have HG := Lib.hid hg
  clear h hk hg
  go_enter Tryd.func11, Tryd.ntmps11
  go_wp2_with fail
  refine HM.out.mono ?_
  rintro e w1 ⟨tv, adr, sl, base, rfl, hv, hl, _, hb1⟩
  obtain ⟨TA, tc, rfl, _, _⟩ := hv.form
  simp only [List.length_map, List.length_range] at *
  have hat := at_any _ _ 0 w1 hv
  rw [atIx_val ns adr sl 0 (by omega), Int.toNat_zero] at hat
  have HA := Lib.hid hat
  have HL := Lib.hid hl
  have hbw : Below w.heap.size w w1 := below_box hb1
  have hT1 : w1.heap[w.heap.size]? = some (.cells #[.int .i64 before] 50 (0, 0)) := heap_keep hb1 (heap_top _ _ _ rfl)
  have HB := Lib.hid (And.intro hbw hT1)
  clear hat hl hv HM hb1 hbw hT1
  go_wp2_with fail
  refine HA.out.mono ?_
  rintro e w2 ⟨rfl, rfl⟩
  have hcall : Calls Tryd.prog 26 #[valOf ns adr sl 0, .iface 60 (.pointer (some ⟨w.heap.size, 0, none⟩))] w1 fun e w' => e = .returned (.bool (asKey ns).isSome) ∧ Below w.heap.size w w' ∧ w'.heap[w.heap.size]? = some (.cells #[.int .i64 ((asKey ns).getD before)] 50 (0, 0)) := by
    cases hT : isThere ns 0 with
    | false =>
      rw [valOf_not hT, asKey_not hT]
      refine (errAs_nil _ _).mono ?_
      rintro e w3 ⟨rfl, rfl⟩
      exact ⟨rfl, HB.out.1, HB.out.2⟩
    | true =>
      refine (errAsV w.heap.size before HL.out hT (HG.out.keep HB.out.1) HB.out.2).mono ?_
      rintro e w3 ⟨rfl, hp⟩
      rw [found_cellV hT] at hp ⊢
      cases hK : asKey ns with
      | none =>
        rw [hK] at hp
        have hb3 := hp.1 rfl
        exact ⟨rfl, below_after HB.out.1 hb3, heap_keep hb3 HB.out.2⟩
      | some y =>
        rw [hK] at hp
        obtain ⟨hg3, h3⟩ := hp.2 _ rfl
        exact ⟨rfl, HB.out.1.grown hg3 HB.out.1.size (fun a ha => by injection ha with ha; omega), h3⟩
  generalize hz : (asKey ns).getD before = z at hcall
  generalize hy : (asKey ns).isSome = y at hcall
  have HC := Lib.hid hcall
  have HZ := Lib.hid (And.intro hz hy)
  clear hcall HL HA hz hy
  generalize valOf ns adr sl 0 = x at *
  go_wp2_with fail
  refine HC.out.mono ?_
  rintro e w3 ⟨rfl, hb3, h3⟩
  have c3 := cell_of_heap h3 0 rfl
  clear h3
  go_wp2_with fail
  go_ret2
  exact ⟨by rw [HZ.out.1, HZ.out.2]; rfl, hb3⟩

set_option maxHeartbeats 2000000 in
theorem implAsWrapTo (v : Value) (ns : List Nd) (kv : Nat → Value) (w : World) (h : Nodes w v ns kv) (hg : ErrT w) (hn : ns.length ≤ 68719476736) (hk : ∀ nd ∈ ns, nd.kids.length ≤ 68719476736) :
    Calls Tryd.prog 13 #[v] w fun e w' => e = .returned (.tuple #[.int .i64 (((asIx ns kWrap).map fun (j : Nat) => (j : Int)).getD (-1)), .bool (asIx ns kWrap).isSome]) ∧ Below w.heap.size w w' := by
  obtain ⟨A, cap, rfl, _, _⟩ := h.form
  have HM := Lib.hid (made_any _ ns kv w h hn hk)
  have HG := Lib.hid hg
  clear h hk hg
  go_enter Tryd.func13, Tryd.ntmps13
  go_wp2_with fail
  refine HM.out.mono ?_
  rintro e w1 ⟨tv, adr, sl, base, rfl, hv, hl, _, hb1⟩
  obtain ⟨TA, tc, rfl, _, _⟩ := hv.form
  simp only [List.length_map, List.length_range] at *
  have hb2 := below_alloc w1 (.cells #[.pointer none] 61)
  have hat := at_any _ _ 0 (w1.alloc (.cells #[.pointer none] 61)) (hv.keep hb2)
  rw [atIx_val ns adr sl 0 (by omega), Int.toNat_zero] at hat
  have HA := Lib.hid hat
  have HL := Lib.hid (And.intro hl (And.intro hv hb2))
  clear hat hl hv HM hb2
  go_wp2_with fail
  refine HA.out.mono ?_
  rintro e w2 ⟨rfl, rfl⟩
  have hcall : Calls Tryd.prog 26 #[valOf ns adr sl 0, .iface 65 (.pointer (some ⟨w1.heap.size, 0, none⟩))] (w1.alloc (.cells #[.pointer none] 61)) fun e w' => e = .returned (.bool (asIx ns kWrap).isSome) ∧ Below w1.heap.size w1 w' ∧ w'.heap[w1.heap.size]? = some (.cells #[((asIx ns kWrap).map fun j => Value.pointer (some ⟨adr j, 0, none⟩)).getD (.pointer none)] 61 (0, 0)) := by
    cases hT : isThere ns 0 with
    | false =>
      rw [valOf_not hT, asIx_not _ hT]
      refine (errAs_nil _ _).mono ?_
      rintro e w3 ⟨rfl, rfl⟩
      exact ⟨rfl, below_alloc _ _, heap_top _ _ _ rfl⟩
    | true =>
      refine (errAsW w1.heap.size (HL.out.1.keep HL.out.2.2) hT (HG.out.keep (below_after hb1 HL.out.2.2)) (heap_top _ _ _ rfl)).mono ?_
      rintro e w3 ⟨rfl, hp⟩
      rw [foundW adr hT] at hp ⊢
      cases hK : asIx ns kWrap with
      | none =>
        rw [hK] at hp
        have hb3 := hp.1 rfl
        exact ⟨rfl, below_after HL.out.2.2 hb3, heap_keep hb3 (heap_top _ _ _ rfl)⟩
      | some j =>
        rw [hK] at hp
        obtain ⟨hg3, h3⟩ := hp.2 _ rfl
        exact ⟨rfl, HL.out.2.2.grown hg3 HL.out.2.2.size (fun a ha => by injection ha with ha; omega), h3⟩
  cases hf : asIx ns kWrap with
  | none =>
    rw [hf] at hcall
    simp only [Option.map_none, Option.getD_none, Option.isSome_none] at hcall ⊢
    have HC := Lib.hid hcall
    have HF := Lib.hid hf
    clear hcall HL HA hf
    generalize valOf ns adr sl 0 = x at *
    go_wp2_with fail
    refine HC.out.mono ?_
    rintro e w3 ⟨rfl, hb3, h3⟩
    have c3 := cell_of_heap h3 0 rfl
    clear h3
    go_wp2_with fail
    go_ret2
    exact ⟨by rw [HF.out]; rfl, below_after hb1 hb3⟩
  | some j =>
    rw [hf] at hcall
    simp only [Option.map_some, Option.getD_some, Option.isSome_some] at hcall ⊢
    obtain ⟨hj, nd, hnd, hkd⟩ := asIx_some (k := .wrap) hf
    have HC := Lib.hid hcall
    have HI := Lib.hid (show ∀ w3, Below w1.heap.size w1 w3 → Calls Tryd.prog 28 #[.slice TA ns.length tc, .iface 61 (.pointer (some ⟨adr j, 0, none⟩))] w3 fun e w' => e = .returned (.int .i64 (j : Int)) ∧ Below w3.heap.size w3 w' from fun w3 hb3 => by
      have := index_other _ w3 (HL.out.2.1.keep hb3) (HL.out.1.keep hb3) hj hnd hkd (by decide) hn
      rw [valOf_there hj hnd hkd, least_wrap hnd hkd] at this
      exact this)
    have HF := Lib.hid hf
    clear hcall HL HA hf hj hnd hkd
    generalize valOf ns adr sl 0 = x at *
    go_wp2_with fail
    refine HC.out.mono ?_
    rintro e w3 ⟨rfl, hb3, h3⟩
    have c3 := cell_of_heap h3 0 rfl
    clear h3
    go_wp2_with fail
    refine (HI.out _ hb3).mono ?_
    rintro e w4 ⟨rfl, hb4⟩
    go_wp2_with fail
    go_ret2
    exact ⟨by rw [HF.out]; rfl, below_after (below_after hb1 hb3) hb4⟩
end Go.Proofs.YtccoeajjomfmnaaDoor
