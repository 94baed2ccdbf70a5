/-
  The contract of impl.AsPanics, and the walk of the law FnExactAsPanics: it returns true.
  Conditions: the variable errors.errorType holds the handle of the type error; the nodes take at most 2^47 - 4096 bytes.
-/
import Derived.Test.YtccoeajjomfmnaaDoorPanics
import Derived.Test.YtccoeajjomfmnaaDoorNodes
import Derived.Test.YtccoeajjomfmnaaDoorSpecLarge
namespace Go.Proofs.YtccoeajjomfmnaaDoor
open Go.RowKit Go.Lib

def cNil : ByteArray := ⟨#[110, 105, 108]⟩
def cNum : ByteArray := ⟨#[110, 117, 109, 98, 101, 114]⟩
def cNilP : ByteArray := ⟨#[110, 105, 108, 32, 112, 111, 105, 110, 116, 101, 114]⟩
def cPNum : ByteArray := ⟨#[112, 111, 105, 110, 116, 101, 114, 32, 116, 111, 32, 110, 117, 109, 98, 101, 114]⟩
def cPVal : ByteArray := ⟨#[112, 111, 105, 110, 116, 101, 114, 32, 116, 111, 32, 118, 97, 108, 117, 101]⟩
def cPAny : ByteArray := ⟨#[112, 111, 105, 110, 116, 101, 114, 32, 116, 111, 32, 97, 110, 121]⟩

/-- Whether errors.As panics with a target of a kind. -/
def panicsB (kd : ByteArray) : Bool := decide (kd = cNil ∨ kd = cNum ∨ kd = cNilP ∨ kd = cPNum)
theorem asTo_grown {T : Nat} {t : TypeId} {o : Option Value} {w w' : World} (h : AsToPost T t o w w') : w.grownBy w' (some T) := by
  cases o with
  | none => exact gB_of T (h.1 rfl)
  | some y => exact (h.2 y rfl).1
theorem kd_cases (kd : ByteArray) : kd = cNil ∨ kd = cNum ∨ kd = cNilP ∨ kd = cPNum ∨ kd = cPVal ∨ kd = cPAny ∨ (kd ≠ cNil ∧ kd ≠ cNum ∧ kd ≠ cNilP ∧ kd ≠ cPNum ∧ kd ≠ cPVal ∧ kd ≠ cPAny) := by
  by_cases h1 : kd = cNil
  · exact .inl h1
  by_cases h2 : kd = cNum
  · exact .inr (.inl h2)
  by_cases h3 : kd = cNilP
  · exact .inr (.inr (.inl h3))
  by_cases h4 : kd = cPNum
  · exact .inr (.inr (.inr (.inl h4)))
  by_cases h5 : kd = cPVal
  · exact .inr (.inr (.inr (.inr (.inl h5))))
  by_cases h6 : kd = cPAny
  · exact .inr (.inr (.inr (.inr (.inr (.inl h6)))))
  exact .inr (.inr (.inr (.inr (.inr (.inr ⟨h1, h2, h3, h4, h5, h6⟩)))))


set_option maxRecDepth 100000 in
set_option maxHeartbeats 4000000 in
theorem asPanics_Nil (v : Value) (ns : List Nd) (kv : Nat → Value) (w : World) (h : Nodes w v ns kv) (hg : ErrT w) (hn : ns.length ≤ 68719476736) (hk : ∀ nd ∈ ns, nd.kids.length ≤ 68719476736) (hT : isThere ns 0 = true) :
    Calls Tryd.prog 21 #[v, .string cNil] w fun e w' => e = .returned (.bool true) ∧ Below w.heap.size w w' := by
  obtain ⟨A, cap, rfl, _, _⟩ := h.form
  have HM := Lib.hid (made_any _ ns kv w h hn hk)
  have HG := Lib.hid (And.intro hg hT)
  clear h hk hg hT
  simp only [cNil]
  go_enter Tryd.func21, Tryd.ntmps21
  go_wp2_with fail
  refine HM.out.mono ?_
  rintro e w1 ⟨tv, adr, sl, base, rfl, hv, hl, _, hb1⟩
  obtain ⟨TA, tc, rfl, _, _⟩ := hv.form
  simp only [List.length_map, List.length_range] at *
  have hat := at_any _ _ 0 w1 hv
  rw [atIx_val ns adr sl 0 (by omega), Int.toNat_zero] at hat
  obtain ⟨t, u, hu⟩ := valOf_iface (adr := adr) (sl := sl) HG.out.2
  rw [hu] at hat
  have HA := Lib.hid hat
  have HL := Lib.hid hl
  have HU := Lib.hid hu
  have HE := Lib.hid (HG.out.1.keep hb1)
  clear hat hl hv HM hu
  go_wp2_with fail
  refine HA.out.mono ?_
  rintro e w2 ⟨rfl, rfl⟩
  go_wp2_with fail
  refine (as_panic _ _ _ (errAs_pnil t u _)).mono ?_
  rintro e w3 ⟨rfl, hb3⟩
  go_wp2_with fail
  go_ret
  exact ⟨rfl, below_after (below_after hb1 (below_after (below_after (below_alloc _ _) (below_alloc _ _)) (below_alloc _ _))) hb3⟩

set_option maxRecDepth 100000 in
set_option maxHeartbeats 4000000 in
theorem asPanics_Num (v : Value) (ns : List Nd) (kv : Nat → Value) (w : World) (h : Nodes w v ns kv) (hg : ErrT w) (hn : ns.length ≤ 68719476736) (hk : ∀ nd ∈ ns, nd.kids.length ≤ 68719476736) (hT : isThere ns 0 = true) :
    Calls Tryd.prog 21 #[v, .string cNum] w fun e w' => e = .returned (.bool true) ∧ Below w.heap.size w w' := by
  obtain ⟨A, cap, rfl, _, _⟩ := h.form
  have HM := Lib.hid (made_any _ ns kv w h hn hk)
  have HG := Lib.hid (And.intro hg hT)
  clear h hk hg hT
  simp only [cNum]
  go_enter Tryd.func21, Tryd.ntmps21
  go_wp2_with fail
  refine HM.out.mono ?_
  rintro e w1 ⟨tv, adr, sl, base, rfl, hv, hl, _, hb1⟩
  obtain ⟨TA, tc, rfl, _, _⟩ := hv.form
  simp only [List.length_map, List.length_range] at *
  have hat := at_any _ _ 0 w1 hv
  rw [atIx_val ns adr sl 0 (by omega), Int.toNat_zero] at hat
  obtain ⟨t, u, hu⟩ := valOf_iface (adr := adr) (sl := sl) HG.out.2
  rw [hu] at hat
  have HA := Lib.hid hat
  have HL := Lib.hid hl
  have HU := Lib.hid hu
  have HE := Lib.hid (HG.out.1.keep hb1)
  clear hat hl hv HM hu
  go_wp2_with fail
  refine HA.out.mono ?_
  rintro e w2 ⟨rfl, rfl⟩
  go_wp2_with fail
  refine (as_panic _ _ _ (errAs_pnum t u 0 _)).mono ?_
  rintro e w3 ⟨rfl, hb3⟩
  go_wp2_with fail
  go_ret
  exact ⟨rfl, below_after (below_after hb1 (below_after (below_after (below_alloc _ _) (below_alloc _ _)) (below_alloc _ _))) hb3⟩

set_option maxRecDepth 100000 in
set_option maxHeartbeats 4000000 in
theorem asPanics_NilP (v : Value) (ns : List Nd) (kv : Nat → Value) (w : World) (h : Nodes w v ns kv) (hg : ErrT w) (hn : ns.length ≤ 68719476736) (hk : ∀ nd ∈ ns, nd.kids.length ≤ 68719476736) (hT : isThere ns 0 = true) :
    Calls Tryd.prog 21 #[v, .string cNilP] w fun e w' => e = .returned (.bool true) ∧ Below w.heap.size w w' := by
  obtain ⟨A, cap, rfl, _, _⟩ := h.form
  have HM := Lib.hid (made_any _ ns kv w h hn hk)
  have HG := Lib.hid (And.intro hg hT)
  clear h hk hg hT
  simp only [cNilP]
  go_enter Tryd.func21, Tryd.ntmps21
  go_wp2_with fail
  refine HM.out.mono ?_
  rintro e w1 ⟨tv, adr, sl, base, rfl, hv, hl, _, hb1⟩
  obtain ⟨TA, tc, rfl, _, _⟩ := hv.form
  simp only [List.length_map, List.length_range] at *
  have hat := at_any _ _ 0 w1 hv
  rw [atIx_val ns adr sl 0 (by omega), Int.toNat_zero] at hat
  obtain ⟨t, u, hu⟩ := valOf_iface (adr := adr) (sl := sl) HG.out.2
  rw [hu] at hat
  have HA := Lib.hid hat
  have HL := Lib.hid hl
  have HU := Lib.hid hu
  have HE := Lib.hid (HG.out.1.keep hb1)
  clear hat hl hv HM hu
  go_wp2_with fail
  refine HA.out.mono ?_
  rintro e w2 ⟨rfl, rfl⟩
  go_wp2_with fail
  refine (as_panic _ _ _ (errAs_pnilp t u _)).mono ?_
  rintro e w3 ⟨rfl, hb3⟩
  go_wp2_with fail
  go_ret
  exact ⟨rfl, below_after (below_after hb1 (below_after (below_after (below_alloc _ _) (below_alloc _ _)) (below_alloc _ _))) hb3⟩

set_option maxRecDepth 100000 in
set_option maxHeartbeats 4000000 in
theorem asPanics_PNum (v : Value) (ns : List Nd) (kv : Nat → Value) (w : World) (h : Nodes w v ns kv) (hg : ErrT w) (hn : ns.length ≤ 68719476736) (hk : ∀ nd ∈ ns, nd.kids.length ≤ 68719476736) (hT : isThere ns 0 = true) :
    Calls Tryd.prog 21 #[v, .string cPNum] w fun e w' => e = .returned (.bool true) ∧ Below w.heap.size w w' := by
  obtain ⟨A, cap, rfl, _, _⟩ := h.form
  have HM := Lib.hid (made_any _ ns kv w h hn hk)
  have HG := Lib.hid (And.intro hg hT)
  clear h hk hg hT
  simp only [cPNum]
  go_enter Tryd.func21, Tryd.ntmps21
  go_wp2_with fail
  refine HM.out.mono ?_
  rintro e w1 ⟨tv, adr, sl, base, rfl, hv, hl, _, hb1⟩
  obtain ⟨TA, tc, rfl, _, _⟩ := hv.form
  simp only [List.length_map, List.length_range] at *
  have hat := at_any _ _ 0 w1 hv
  rw [atIx_val ns adr sl 0 (by omega), Int.toNat_zero] at hat
  obtain ⟨t, u, hu⟩ := valOf_iface (adr := adr) (sl := sl) HG.out.2
  rw [hu] at hat
  have HA := Lib.hid hat
  have HL := Lib.hid hl
  have HU := Lib.hid hu
  have HE := Lib.hid (HG.out.1.keep hb1)
  clear hat hl hv HM hu
  go_wp2_with fail
  refine HA.out.mono ?_
  rintro e w2 ⟨rfl, rfl⟩
  go_wp2_with fail
  refine (as_panic _ _ _ (errAs_pint t u _ _ ((((HE.out.keep (below_alloc _ _)).keep (below_alloc _ _)).keep (below_alloc _ _)).keep (below_alloc _ _)))).mono ?_
  rintro e w3 ⟨rfl, hb3⟩
  go_wp2_with fail
  go_ret
  exact ⟨rfl, below_after (below_after hb1 (below_after (below_after (below_alloc _ _) (below_alloc _ _)) (below_alloc _ _))) hb3⟩

set_option maxRecDepth 100000 in
set_option maxHeartbeats 4000000 in
theorem asPanics_PVal (v : Value) (ns : List Nd) (kv : Nat → Value) (w : World) (h : Nodes w v ns kv) (hg : ErrT w) (hn : ns.length ≤ 68719476736) (hk : ∀ nd ∈ ns, nd.kids.length ≤ 68719476736) (hT : isThere ns 0 = true) :
    Calls Tryd.prog 21 #[v, .string cPVal] w fun e w' => e = .returned (.bool false) ∧ Below w.heap.size w w' := by
  obtain ⟨A, cap, rfl, _, _⟩ := h.form
  have HM := Lib.hid (made_any _ ns kv w h hn hk)
  have HG := Lib.hid (And.intro hg hT)
  clear h hk hg hT
  simp only [cPVal]
  go_enter Tryd.func21, Tryd.ntmps21
  go_wp2_with fail
  refine HM.out.mono ?_
  rintro e w1 ⟨tv, adr, sl, base, rfl, hv, hl, _, hb1⟩
  obtain ⟨TA, tc, rfl, _, _⟩ := hv.form
  simp only [List.length_map, List.length_range] at *
  have hat := at_any _ _ 0 w1 hv
  rw [atIx_val ns adr sl 0 (by omega), Int.toNat_zero] at hat
  obtain ⟨t, u, hu⟩ := valOf_iface (adr := adr) (sl := sl) HG.out.2
  rw [hu] at hat
  have HA := Lib.hid hat
  have HL := Lib.hid hl
  have HU := Lib.hid hu
  have HE := Lib.hid (HG.out.1.keep hb1)
  clear hat hl hv HM hu
  go_wp2_with fail
  refine HA.out.mono ?_
  rintro e w2 ⟨rfl, rfl⟩
  go_wp2_with fail
  rw [← HU.out]
  refine (as_fine _ _ (w1.heap.size + 1) _ (by simp) ((errAsV (w1.heap.size + 1) 0 ((((HL.out.keep (below_alloc _ _)).keep (below_alloc _ _)).keep (below_alloc _ _)).keep (below_alloc _ _)) HG.out.2 ((((HE.out.keep (below_alloc _ _)).keep (below_alloc _ _)).keep (below_alloc _ _)).keep (below_alloc _ _)) (heap_keep (below_alloc _ _) (heap_keep (below_alloc _ _) (heap_top _ _ _ (by simp))))).mono (fun e w' hh => ⟨⟨_, hh.1⟩, asTo_grown hh.2⟩))).mono ?_
  rintro e w3 ⟨rfl, hg3⟩
  have hb3 := Below.grown (below_after hb1 (below_after (below_after (below_alloc _ _) (below_alloc _ _)) (below_alloc _ _))) hg3 (by have := hb1.size; simp; omega) (fun a ha => by injection ha with ha; have := hb1.size; omega)
  clear hg3
  go_wp2_with fail
  go_ret
  exact ⟨rfl, hb3⟩

set_option maxRecDepth 100000 in
set_option maxHeartbeats 4000000 in
theorem asPanics_PAny (v : Value) (ns : List Nd) (kv : Nat → Value) (w : World) (h : Nodes w v ns kv) (hg : ErrT w) (hn : ns.length ≤ 68719476736) (hk : ∀ nd ∈ ns, nd.kids.length ≤ 68719476736) (hT : isThere ns 0 = true) :
    Calls Tryd.prog 21 #[v, .string cPAny] w fun e w' => e = .returned (.bool false) ∧ Below w.heap.size w w' := by
  obtain ⟨A, cap, rfl, _, _⟩ := h.form
  have HM := Lib.hid (made_any _ ns kv w h hn hk)
  have HG := Lib.hid (And.intro hg hT)
  clear h hk hg hT
  simp only [cPAny]
  go_enter Tryd.func21, Tryd.ntmps21
  go_wp2_with fail
  refine HM.out.mono ?_
  rintro e w1 ⟨tv, adr, sl, base, rfl, hv, hl, _, hb1⟩
  obtain ⟨TA, tc, rfl, _, _⟩ := hv.form
  simp only [List.length_map, List.length_range] at *
  have hat := at_any _ _ 0 w1 hv
  rw [atIx_val ns adr sl 0 (by omega), Int.toNat_zero] at hat
  obtain ⟨t, u, hu⟩ := valOf_iface (adr := adr) (sl := sl) HG.out.2
  rw [hu] at hat
  have HA := Lib.hid hat
  have HL := Lib.hid hl
  have HU := Lib.hid hu
  have HE := Lib.hid (HG.out.1.keep hb1)
  clear hat hl hv HM hu
  go_wp2_with fail
  refine HA.out.mono ?_
  rintro e w2 ⟨rfl, rfl⟩
  go_wp2_with fail
  rw [← HU.out]
  refine (as_fine _ _ (w1.heap.size + 1 + 1) _ (by simp) ((errAsA (w1.heap.size + 1 + 1) .nilIface ((((HL.out.keep (below_alloc _ _)).keep (below_alloc _ _)).keep (below_alloc _ _)).keep (below_alloc _ _)) HG.out.2 (heap_keep (below_alloc _ _) (heap_top _ _ _ (by simp)))).mono (fun e w' hh => ⟨⟨_, hh.1⟩, hh.2⟩))).mono ?_
  rintro e w3 ⟨rfl, hg3⟩
  have hb3 := Below.grown (below_after hb1 (below_after (below_after (below_alloc _ _) (below_alloc _ _)) (below_alloc _ _))) hg3 (by have := hb1.size; simp; omega) (fun a ha => by injection ha with ha; have := hb1.size; omega)
  clear hg3
  go_wp2_with fail
  go_ret
  exact ⟨rfl, hb3⟩

set_option maxRecDepth 100000 in
set_option maxHeartbeats 4000000 in
theorem asPanics_Other (v : Value) (ns : List Nd) (kv : Nat → Value) (kd : ByteArray) (hk6 : kd ≠ cNil ∧ kd ≠ cNum ∧ kd ≠ cNilP ∧ kd ≠ cPNum ∧ kd ≠ cPVal ∧ kd ≠ cPAny) (w : World) (h : Nodes w v ns kv) (hg : ErrT w) (hn : ns.length ≤ 68719476736) (hk : ∀ nd ∈ ns, nd.kids.length ≤ 68719476736) (hT : isThere ns 0 = true) :
    Calls Tryd.prog 21 #[v, .string kd] w fun e w' => e = .returned (.bool false) ∧ Below w.heap.size w w' := by
  obtain ⟨A, cap, rfl, _, _⟩ := h.form
  have HM := Lib.hid (made_any _ ns kv w h hn hk)
  have HG := Lib.hid (And.intro hg hT)
  clear h hk hg hT
  obtain ⟨a1, a2, a3, a4, a5, a6⟩ := hk6
  have t1 := toList_ne a1
  have t2 := toList_ne a2
  have t3 := toList_ne a3
  have t4 := toList_ne a4
  have t5 := toList_ne a5
  have t6 := toList_ne a6
  clear a1 a2 a3 a4 a5 a6
  go_enter Tryd.func21, Tryd.ntmps21
  go_wp2_with fail
  refine HM.out.mono ?_
  rintro e w1 ⟨tv, adr, sl, base, rfl, hv, hl, _, hb1⟩
  obtain ⟨TA, tc, rfl, _, _⟩ := hv.form
  simp only [List.length_map, List.length_range] at *
  have hat := at_any _ _ 0 w1 hv
  rw [atIx_val ns adr sl 0 (by omega), Int.toNat_zero] at hat
  obtain ⟨t, u, hu⟩ := valOf_iface (adr := adr) (sl := sl) HG.out.2
  rw [hu] at hat
  have HA := Lib.hid hat
  have HL := Lib.hid hl
  have HU := Lib.hid hu
  have HE := Lib.hid (HG.out.1.keep hb1)
  clear hat hl hv HM hu
  go_wp2_with fail
  refine HA.out.mono ?_
  rintro e w2 ⟨rfl, rfl⟩
  go_wp2_with fail
  go_ret
  exact ⟨rfl, below_after hb1 (below_after (below_after (below_alloc _ _) (below_alloc _ _)) (below_alloc _ _))⟩

theorem implAsPanics (v : Value) (ns : List Nd) (kv : Nat → Value) (kd : ByteArray) (w : World) (h : Nodes w v ns kv) (hg : ErrT w) (hn : ns.length ≤ 68719476736) (hk : ∀ nd ∈ ns, nd.kids.length ≤ 68719476736) (hT : isThere ns 0 = true) :
    Calls Tryd.prog 21 #[v, .string kd] w fun e w' => e = .returned (.bool (panicsB kd)) ∧ Below w.heap.size w w' := by
  rcases kd_cases kd with rfl | rfl | rfl | rfl | rfl | rfl | h6
  · exact asPanics_Nil v ns kv w h hg hn hk hT
  · exact asPanics_Num v ns kv w h hg hn hk hT
  · exact asPanics_NilP v ns kv w h hg hn hk hT
  · exact asPanics_PNum v ns kv w h hg hn hk hT
  · exact asPanics_PVal v ns kv w h hg hn hk hT
  · exact asPanics_PAny v ns kv w h hg hn hk hT
  · have e : panicsB kd = false := by unfold panicsB; simp [h6.1, h6.2.1, h6.2.2.1, h6.2.2.2.1]
    rw [e]
    exact asPanics_Other v ns kv kd h6 w h hg hn hk hT

theorem thereB_zero' (ns : List Nd) : thereB ns 0 = isThere ns 0 := by simp [thereB]

set_option maxRecDepth 100000 in
set_option maxHeartbeats 4000000 in
theorem wFnExactAsPanics (v : Value) (ns : List Nd) (kv : Nat → Value) (kd : ByteArray) (w : World) (h : Nodes w v ns kv) (hE : ErrT w) (hr : ns.length * 64 ≤ 140737488351232) :
    Calls Tryd.prog 6 #[v, .string kd] w fun e w' => e = .returned (.bool true) ∧ Below w.heap.size w w' := by
  obtain ⟨A, cap, rfl, _, hcm⟩ := h.form
  simp only [maxLen] at hcm
  have HN := Lib.hid h
  have HG := Lib.hid hE
  clear h hE
  go_enter Tryd.func6, Tryd.ntmps6
  go_wp2_with fail
  refine (specNodes_any _ ns kv _ HN.out hr).mono ?_
  rintro e w1 ⟨v1, rfl, hn1, hb⟩
  obtain ⟨NA, nc, rfl, _, hncm⟩ := hn1.form
  simp only [maxLen] at hncm
  have HM := Lib.hid hn1
  have hB1 := hb
  have hC1 : Below w1.heap.size w1 w1 := Below.refl _ _
  clear hn1 hb
  go_wp2_with fail
  refine (large_f _ ns kv _ (HM.out.keep hC1)).mono ?_
  rintro e w2 ⟨bl, rfl, hsm, hb⟩
  have hB2 := below_after hB1 hb
  have hC2 := below_after hC1 hb
  clear hb
  have HSM := Lib.hid hsm
  clear hsm
  cases bl with
  | true =>
    clear HSM
    go_wp2_with fail
    go_ret
    exact ⟨rfl, hB2⟩
  | false =>
    have HS := Lib.hid (HSM.out rfl)
    clear HSM
    have HL := Lib.hid (show ns.length ≤ 68719476736 by have := HS.out.len; omega)
    have HKD := Lib.hid (show ∀ nd ∈ ns, nd.kids.length ≤ 68719476736 from fun nd hnd => by have := (HS.out.each nd hnd).1; omega)
    have HTR := Lib.hid (show ∀ j, j < ns.length → treeLen ns j ≤ 1073741824 from fun j hj => by have := HS.out.tree j hj; omega)
    go_wp2_with fail
    refine (specMade_any _ ns kv _ (HM.out.keep hC2) HL.out HKD.out).mono ?_
    intro e w3 hm
    obtain ⟨gi3, gk3, ks3, rfl, hF, hb⟩ := SpecMade.fval hm (HM.out.keep hC2)
    have HF3 := Lib.hid hF
    clear hm hF
    have hB3 := below_after hB2 hb
    have hC3 := below_after hC2 hb
    clear hb
    go_wp2_with fail
    refine (there_f ns NA nc kv gi3 gk3 ks3 0 _ HF3.out).mono ?_
    rintro e w4 ⟨rfl, hb⟩
    have hB4 := below_after hB3 hb
    have hC4 := below_after hC3 hb
    clear hb
    rw [thereB_zero']
    cases hT : isThere ns 0 with
    | false =>
      clear hT
      go_wp2_with fail
      go_ret
      exact ⟨rfl, hB4⟩
    | true =>
      have HT := Lib.hid hT
      clear hT
      go_wp2_with fail
      refine (implAsPanics _ ns kv kd _ (HN.out.keep hB4) (HG.out.keep hB4) HL.out HKD.out HT.out).mono ?_
      rintro e w5 ⟨rfl, hb⟩
      have hB5 := below_after hB4 hb
      have hC5 := below_after hC4 hb
      clear hb
      rcases kd_cases kd with rfl | rfl | rfl | rfl | h5
      · rw [show panicsB cNil = true from by decide]
        simp only [cNil]
        go_wp2_with fail
        go_ret
        exact ⟨rfl, hB5⟩
      · rw [show panicsB cNum = true from by decide]
        simp only [cNum]
        go_wp2_with fail
        go_ret
        exact ⟨rfl, hB5⟩
      · rw [show panicsB cNilP = true from by decide]
        simp only [cNilP]
        go_wp2_with fail
        go_ret
        exact ⟨rfl, hB5⟩
      · rw [show panicsB cPNum = true from by decide]
        simp only [cPNum]
        go_wp2_with fail
        go_ret
        exact ⟨rfl, hB5⟩
      · have h4 : kd ≠ cNil ∧ kd ≠ cNum ∧ kd ≠ cNilP ∧ kd ≠ cPNum := by
          rcases h5 with rfl | rfl | h6
          · decide
          · decide
          · exact ⟨h6.1, h6.2.1, h6.2.2.1, h6.2.2.2.1⟩
        have e : panicsB kd = false := by unfold panicsB; simp [h4.1, h4.2.1, h4.2.2.1, h4.2.2.2]
        rw [e]
        have t1 := toList_ne h4.1
        have t2 := toList_ne h4.2.1
        have t3 := toList_ne h4.2.2.1
        have t4 := toList_ne h4.2.2.2
        clear h4 h5 e
        go_wp2_with fail
        go_ret
        exact ⟨rfl, hB5⟩
end Go.Proofs.YtccoeajjomfmnaaDoor
