/-
  The contracts of errors.AsType and of impl.AsValue, impl.AsWrap.
  Conditions: at most 2^36 nodes with at most 2^36 kids each.
-/
import Derived.Test.YtccoeajjomfmnaaDoorKAsV
import Derived.Test.YtccoeajjomfmnaaDoorKAsW
import Derived.Test.YtccoeajjomfmnaaDoorMade
import Derived.Test.YtccoeajjomfmnaaDoorIndex
import Derived.Test.YtccoeajjomfmnaaDoorSpecAs
namespace Go.Proofs.YtccoeajjomfmnaaDoor
open Go.RowKit Go.Lib

theorem findSome_map {α β γ : Type} (f : α → Option β) (g : β → γ) : ∀ l : List α, l.findSome? (fun x => (f x).map g) = (l.findSome? f).map g
  | [] => rfl
  | x :: l => by
    rw [List.findSome?_cons, List.findSome?_cons, findSome_map f g l]
    cases f x <;> rfl
theorem findSome_if {α β : Type} (p : α → Bool) (f : α → β) : ∀ l : List α, l.findSome? (fun x => if p x = true then some (f x) else none) = (l.find? p).map f
  | [] => rfl
  | x :: l => by
    rw [List.findSome?_cons, List.find?_cons, findSome_if p f l]
    cases p x <;> rfl
theorem foundV {ns : List Nd} (adr : Nat → Nat) (h : isThere ns 0 = true) : (treeOf ns 0).findSome? (hitV ns adr) = (asKey ns).map fun k => Value.agg #[.int .i64 k] := by
  unfold asKey
  rw [rootTree_there h]
  exact findSome_map _ _ _
theorem foundW {ns : List Nd} (adr : Nat → Nat) (h : isThere ns 0 = true) : (treeOf ns 0).findSome? (hitW ns adr) = (asIx ns kWrap).map fun j => Value.pointer (some ⟨adr j, 0, none⟩) := by
  unfold asIx
  rw [rootTree_there h]
  exact findSome_if _ _ _
theorem asKey_not {ns : List Nd} (h : isThere ns 0 = false) : asKey ns = none := by unfold asKey; rw [rootTree_not h]; rfl
theorem asIx_not {ns : List Nd} (s : ByteArray) (h : isThere ns 0 = false) : asIx ns s = none := by unfold asIx; rw [rootTree_not h]; rfl
theorem asIx_some {ns : List Nd} {k : K8} {j : Nat} (h : asIx ns k.word = some j) : isThere ns j = true ∧ ∃ nd, ns[j]? = some nd ∧ kindOf nd.kind = some k := by
  unfold asIx at h
  have hp := List.find?_some h
  have hm := mem_rootTree (List.mem_of_find?_eq_some h)
  obtain ⟨nd, q, hn, hq⟩ := isThere_kind hm.2
  rw [isKind_of hn hq] at hp
  have hp := of_decide_eq_true hp
  subst hp
  exact ⟨hm.2, nd, hn, hq⟩


set_option maxHeartbeats 2000000 in
theorem asTypeV_nil (w : World) : Calls Tryd.prog 23 #[.nilIface] w fun e w' => e = .returned (.tuple #[.agg #[.int .i64 0], .bool false]) ∧ Below w.heap.size w w' := by
  go_enter Tryd.func23, Tryd.ntmps23
  go_wp2_with fail
  refine bodyPost_ret (v := .tuple #[.agg #[.int .i64 0], .bool false]) (by have hc : ∀ o, ((w.alloc (.cells #[.int .i64 0] 50)).alloc o).cell? ⟨w.heap.size, 0, none⟩ = some (.int .i64 0) := (fun o => cell_keep (below_alloc _ _) (cell_of_heap (heap_top _ _ _ rfl) 0 rfl)); simp [results, Tryd.results23, go_sem, hc]) rfl ?_
  exact ⟨rfl, below_after (below_alloc _ _) (below_alloc _ _)⟩

theorem getD_map_agg (o : Option Int) : (o.map fun k => Value.agg #[.int .i64 k]).getD (.agg #[.int .i64 0]) = .agg #[.int .i64 (o.getD 0)] := by cases o <;> rfl

set_option maxHeartbeats 2000000 in
theorem asTypeV {w : World} {ns : List Nd} {adr : Nat → Nat} {sl : Nat → Value} {base : Nat} (L : Lies w ns adr sl base 0) (h : isThere ns 0 = true) :
    Calls Tryd.prog 23 #[valOf ns adr sl 0] w fun e w' => e = .returned (.tuple #[.agg #[.int .i64 ((asKey ns).getD 0)], .bool (asKey ns).isSome]) ∧ Below w.heap.size w w' := by
  have hc := asV_any (P := w.heap.size + 1) L (by omega) ns.length 0 ((w.alloc (.cells #[.int .i64 0] 50)).alloc (.cells #[.pointer none] 60)) (by omega) h (below_after (below_alloc _ _) (below_alloc _ _)) (heap_top _ _ _ (by simp))
  rw [foundV adr h, Option.isSome_map, getD_map_agg] at hc
  obtain ⟨t, u, hv⟩ := valOf_iface (adr := adr) (sl := sl) h
  rw [hv] at hc ⊢
  have hR : ((w.alloc (.cells #[.int .i64 0] 50)).alloc (.cells #[.pointer none] 60)).heap[w.heap.size]? = some (.cells #[.int .i64 0] 50 (0, 0)) := heap_keep (below_alloc _ _) (heap_top _ _ _ rfl)
  generalize (asKey ns).getD 0 = z at *
  generalize (asKey ns).isSome = y at *
  have HC := Lib.hid hc
  have HR := Lib.hid hR
  clear L h hv hc hR
  go_enter Tryd.func23, Tryd.ntmps23
  go_wp2_with (go_at_call 34; refine HC.out.mono ?_; rintro e w1 ⟨rfl, hg1, _⟩; have p0 : w1.heap[w.heap.size]? = some (.cells #[.int .i64 0] 50 (0, 0)) := (hg1.block w.heap.size (by simp; omega) (fun h => by injection h with h; omega)).trans HR.out; have p1 := cell_of_heap p0 0 rfl; have p2 := frozen_of_heap p0 0; clear p0)
  refine bodyPost_ret (v := .tuple #[.agg #[.int .i64 z], .bool y]) (by have hc := World.cell?_setCell_same w1 ⟨w.heap.size, 0, none⟩ (.int .i64 z) p1; simp [results, Tryd.results23, go_sem, hc]) rfl ?_
  exact ⟨rfl, ((below_after (below_alloc _ _) (below_alloc _ _)).grown hg1 (by simp; omega) (fun a ha => by injection ha with ha; omega)).setCell (p := ⟨w.heap.size, 0, none⟩) (Nat.le_refl _) _⟩


set_option maxHeartbeats 2000000 in
theorem asTypeW_nil (w : World) : Calls Tryd.prog 27 #[.nilIface] w fun e w' => e = .returned (.tuple #[.pointer none, .bool false]) ∧ Below w.heap.size w w' := by
  go_enter Tryd.func27, Tryd.ntmps27
  go_wp2_with fail
  go_ret2
  exact ⟨rfl, Below.refl _ _⟩

set_option maxHeartbeats 2000000 in
theorem asTypeW {w : World} {ns : List Nd} {adr : Nat → Nat} {sl : Nat → Value} {base : Nat} (L : Lies w ns adr sl base 0) (h : isThere ns 0 = true) :
    Calls Tryd.prog 27 #[valOf ns adr sl 0] w fun e w' => e = .returned (.tuple #[((asIx ns kWrap).map fun j => Value.pointer (some ⟨adr j, 0, none⟩)).getD (.pointer none), .bool (asIx ns kWrap).isSome]) ∧ Below w.heap.size w w' := by
  have hc := asW_any (P := w.heap.size) L (Nat.le_refl _) ns.length 0 (w.alloc (.cells #[.pointer none] 65)) (by omega) h (below_alloc _ _) ⟨none, heap_top _ _ _ rfl⟩
  rw [foundW adr h, Option.isSome_map] at hc
  obtain ⟨t, u, hv⟩ := valOf_iface (adr := adr) (sl := sl) h
  rw [hv] at hc ⊢
  have HC := Lib.hid hc
  clear L h hv hc
  generalize ((asIx ns kWrap).map fun j => Value.pointer (some ⟨adr j, 0, none⟩)).getD (.pointer none) = x at *
  generalize (asIx ns kWrap).isSome = y at *
  go_enter Tryd.func27, Tryd.ntmps27
  go_wp2_with (go_at_call 44; refine HC.out.mono ?_; rintro e w1 ⟨rfl, hg1, _⟩)
  go_ret2
  exact ⟨rfl, (below_alloc _ _).grown hg1 (by simp) (fun a ha => by injection ha with ha; omega)⟩


set_option maxHeartbeats 2000000 in
theorem implAsValue (v : Value) (ns : List Nd) (kv : Nat → Value) (w : World) (h : Nodes w v ns kv) (hn : ns.length ≤ 68719476736) (hk : ∀ nd ∈ ns, nd.kids.length ≤ 68719476736) :
    Calls Tryd.prog 10 #[v] w fun e w' => e = .returned (.tuple #[.int .i64 ((asKey ns).getD 0), .bool (asKey ns).isSome]) ∧ Below w.heap.size w w' := by
  obtain ⟨A, cap, rfl, _, _⟩ := h.form
  have HM := Lib.hid (made_any _ ns kv w h hn hk)
  clear h hk
  go_enter Tryd.func10, Tryd.ntmps10
  go_wp2_with fail
  refine HM.out.mono ?_
  rintro e w1 ⟨tv, adr, sl, base, rfl, hv, hl, _, hb1⟩
  obtain ⟨TA, tc, rfl, _, _⟩ := hv.form
  simp only [List.length_map, List.length_range] at *
  have hat := at_any _ _ 0 w1 hv
  rw [atIx_val ns adr sl 0 (by omega), Int.toNat_zero] at hat
  have HA := Lib.hid hat
  have HL := Lib.hid hl
  clear hat hl hv HM
  go_wp2_with fail
  refine HA.out.mono ?_
  rintro e w2 ⟨rfl, rfl⟩
  have hcall : Calls Tryd.prog 23 #[valOf ns adr sl 0] w1 fun e w' => e = .returned (.tuple #[.agg #[.int .i64 ((asKey ns).getD 0)], .bool (asKey ns).isSome]) ∧ Below w1.heap.size w1 w' := by
    cases hT : isThere ns 0 with
    | false =>
      rw [valOf_not hT, asKey_not hT]
      exact asTypeV_nil w1
    | true => exact asTypeV HL.out hT
  generalize hz : (asKey ns).getD 0 = z at hcall
  generalize hy : (asKey ns).isSome = y at hcall
  have HC := Lib.hid hcall
  have HZ := Lib.hid (And.intro hz hy)
  clear hcall HL HA hz hy
  generalize valOf ns adr sl 0 = x at *
  go_wp2_with fail
  refine HC.out.mono ?_
  rintro e w3 ⟨rfl, hb3⟩
  go_wp2_with fail
  go_ret2
  exact ⟨by rw [HZ.out.1, HZ.out.2]; rfl, (below_after hb1 hb3).alloc (below_after hb1 hb3).size _⟩


theorem least_wrap {ns : List Nd} {j : Nat} {nd : Nd} (hn : ns[j]? = some nd) (hk : kindOf nd.kind = some .wrap) : leastOf ns j = j := by
  unfold leastOf
  rw [hn]
  simp only
  rw [if_neg (by rw [kind_word_eq hk]; simp)]

set_option maxHeartbeats 2000000 in
theorem implAsWrap (v : Value) (ns : List Nd) (kv : Nat → Value) (w : World) (h : Nodes w v ns kv) (hn : ns.length ≤ 68719476736) (hk : ∀ nd ∈ ns, nd.kids.length ≤ 68719476736) :
    Calls Tryd.prog 12 #[v] w fun e w' => e = .returned (.tuple #[.int .i64 (((asIx ns kWrap).map fun (j : Nat) => (j : Int)).getD (-1)), .bool (asIx ns kWrap).isSome]) ∧ Below w.heap.size w w' := by
  obtain ⟨A, cap, rfl, _, _⟩ := h.form
  have HM := Lib.hid (made_any _ ns kv w h hn hk)
  clear h hk
  go_enter Tryd.func12, Tryd.ntmps12
  go_wp2_with fail
  refine HM.out.mono ?_
  rintro e w1 ⟨tv, adr, sl, base, rfl, hv, hl, _, hb1⟩
  obtain ⟨TA, tc, rfl, _, _⟩ := hv.form
  simp only [List.length_map, List.length_range] at *
  have hat := at_any _ _ 0 w1 hv
  rw [atIx_val ns adr sl 0 (by omega), Int.toNat_zero] at hat
  have HA := Lib.hid hat
  have HL := Lib.hid (And.intro hl hv)
  clear hat hl hv HM
  go_wp2_with fail
  refine HA.out.mono ?_
  rintro e w2 ⟨rfl, rfl⟩
  have hcall : Calls Tryd.prog 27 #[valOf ns adr sl 0] w1 fun e w' => e = .returned (.tuple #[((asIx ns kWrap).map fun j => Value.pointer (some ⟨adr j, 0, none⟩)).getD (.pointer none), .bool (asIx ns kWrap).isSome]) ∧ Below w1.heap.size w1 w' := by
    cases hT : isThere ns 0 with
    | false =>
      rw [valOf_not hT, asIx_not _ hT]
      exact asTypeW_nil w1
    | true => exact asTypeW HL.out.1 hT
  cases hf : asIx ns kWrap with
  | none =>
    rw [hf] at hcall
    simp only [Option.map_none, Option.getD_none, Option.isSome_none] at hcall ⊢
    have HC := Lib.hid hcall
    have HF := Lib.hid hf
    clear hcall HL HA hf
    generalize valOf ns adr sl 0 = x at *
    go_wp2_with fail
    refine HC.out.mono ?_
    rintro e w3 ⟨rfl, hb3⟩
    go_wp2_with fail
    go_ret2
    exact ⟨by rw [HF.out]; rfl, below_after hb1 hb3⟩
  | some j =>
    rw [hf] at hcall
    simp only [Option.map_some, Option.getD_some, Option.isSome_some] at hcall ⊢
    obtain ⟨hj, nd, hnd, hkd⟩ := asIx_some (k := .wrap) hf
    have HC := Lib.hid hcall
    have HI := Lib.hid (show ∀ w3, Below w1.heap.size w1 w3 → Calls Tryd.prog 28 #[.slice TA ns.length tc, .iface 61 (.pointer (some ⟨adr j, 0, none⟩))] w3 fun e w' => e = .returned (.int .i64 (j : Int)) ∧ Below w3.heap.size w3 w' from fun w3 hb3 => by
      have := index_other _ w3 (HL.out.2.keep hb3) (HL.out.1.keep hb3) hj hnd hkd (by decide) hn
      rw [valOf_there hj hnd hkd, least_wrap hnd hkd] at this
      exact this)
    have HF := Lib.hid hf
    clear hcall HL HA hf hj hnd hkd
    generalize valOf ns adr sl 0 = x at *
    go_wp2_with fail
    refine HC.out.mono ?_
    rintro e w3 ⟨rfl, hb3⟩
    go_wp2_with fail
    refine (HI.out _ hb3).mono ?_
    rintro e w4 ⟨rfl, hb4⟩
    go_wp2_with fail
    go_ret2
    exact ⟨by rw [HF.out]; rfl, below_after (below_after hb1 hb3) hb4⟩
end Go.Proofs.YtccoeajjomfmnaaDoor
