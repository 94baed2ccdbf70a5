/-
  The contract of errors.asType over the errors of nodes.
  Conditions: none.
-/
import Derived.Test.YtnekgmkonhclbaaActsAs
import Derived.Test.YtnekgmkonhclbaaAsPlain
import Derived.Test.YtnekgmkonhclbaaIsW
import Derived.Deep.LoopGhost
import Derived.Outline
import Derived.Deep.RegionWith

namespace Go.Proofs.Ytnekgmkonhclbaa
open Go.RowKit Go.Lib

/-- The world behind a call that may have written to one block only. -/
theorem gB_after {w w1 w2 : World} {P : Nat} (h : w.grownBy w1 (some P)) (h2 : Below w1.heap.size w1 w2) : w.grownBy w2 (some P) :=
  ⟨h2.os.trans h.os, h2.tape.trans h.tape, h2.output.trans h.output, Nat.le_trans h.size h2.size, fun b hb hne => (h2.block b (Nat.lt_of_lt_of_le hb h.size)).trans (h.block b hb hne)⟩
theorem gB_before {w w1 w2 : World} {P : Nat} (h : Below w.heap.size w w1) (h2 : w1.grownBy w2 (some P)) : w.grownBy w2 (some P) :=
  ⟨h2.os.trans h.os, h2.tape.trans h.tape, h2.output.trans h.output, Nat.le_trans h.size h2.size, fun b hb hne => (h2.block b (Nat.lt_of_lt_of_le hb h.size) hne).trans (h.block b hb)⟩
theorem gB_set {w w1 : World} {P R : Nat} (h : w.grownBy w1 (some P)) (hR : w.heap.size ≤ R) (u : Value) : w.grownBy (w1.setCell ⟨R, 0, none⟩ u) (some P) :=
  ⟨h.os, h.tape, h.output, Nat.le_trans h.size (by simp [World.setCell]), fun b hb hne => (Below.heap_setCell w1 ⟨R, 0, none⟩ u b (by show ¬ b = R; omega)).trans (h.block b hb hne)⟩
theorem gB_of {w w1 : World} (P : Nat) (h : Below w.heap.size w w1) : w.grownBy w1 (some P) := ⟨h.os, h.tape, h.output, h.size, fun b hb _ => h.block b hb⟩
theorem gB_trans {w w1 w2 : World} {P : Nat} (h : w.grownBy w1 (some P)) (h2 : w1.grownBy w2 (some P)) : w.grownBy w2 (some P) :=
  ⟨h2.os.trans h.os, h2.tape.trans h.tape, h2.output.trans h.output, Nat.le_trans h.size h2.size, fun b hb hne => (h2.block b (Nat.lt_of_lt_of_le hb h.size) hne).trans (h.block b hb hne)⟩

/-- What a node gives. -/
def hitV (ns : List Nd) (_adr : Nat → Nat) (j : Nat) : Option Value := (valKey ns j).map fun k => Value.agg #[.int .i64 k]

theorem hitV_of {ns : List Nd} (adr : Nat → Nat) {j : Nat} {nd : Nd} {k : K8} (hn : ns[j]? = some nd) (hk : kindOf nd.kind = some k) : hitV ns adr j = if k = .value ∨ k = .acts then some (Value.agg #[.int .i64 nd.key]) else none := by
  unfold hitV valKey
  rw [hn]
  simp only [word_of_kind hk]
  cases k <;> rfl

theorem nilA_acts (n b : Nat) (w : World) : (nilAhead (n + 1) 91 (.pointer (some ⟨b, 0, none⟩)) "As").run Try.prog w = .ok (some false) w := by kernel_rfl

theorem heap_top (w : World) (o : Obj) (Q : Nat) (h : Q = w.heap.size) : (w.alloc o).heap[Q]? = some o := by
  subst h
  show (w.heap.push o)[w.heap.size]? = some o
  simp

/-- The world behind the method As of an error of the kind acts. -/
structure ActsW (wo : World) (P Q R : Nat) (key : Int) (W : World) : Prop where
  p : W.cell? ⟨P, 0, none⟩ = some (.pointer (some ⟨Q, 0, none⟩))
  q : W.cell? ⟨Q, 0, none⟩ = some (.int .i64 key)
  r : W.cell? ⟨R, 0, none⟩ = some (.int .i64 0)
  f : W.frozen? ⟨R, 0, none⟩ = false
  g : wo.grownBy W (some P)
theorem ActsW.mk' {wo : World} {P Q R : Nat} (key : Int) (o1 : Obj) (T : TypeId) (hQ : Q = wo.heap.size + 1) (hPo : P < wo.heap.size) (hne : ¬ P = R) (hr : wo.cell? ⟨R, 0, none⟩ = some (.int .i64 0)) (hf : wo.frozen? ⟨R, 0, none⟩ = false) (hp : wo.cell? ⟨P, 0, none⟩ = some (.pointer none)) :
    ActsW wo P Q R key (((((wo.setCell ⟨P, 0, none⟩ (.pointer (some ⟨Q, 0, none⟩))).alloc o1).alloc (.cells #[.int .i64 0] T)).drew).setCell ⟨Q, 0, none⟩ (.int .i64 key)) := by
  have hRo := lt_of_cell hr
  have hblk : ∀ a, a < wo.heap.size → (((((wo.setCell ⟨P, 0, none⟩ (.pointer (some ⟨Q, 0, none⟩))).alloc o1).alloc (.cells #[.int .i64 0] T)).drew).setCell ⟨Q, 0, none⟩ (.int .i64 key)).heap[a]? = (wo.setCell ⟨P, 0, none⟩ (.pointer (some ⟨Q, 0, none⟩))).heap[a]? := by
    intro a ha
    rw [Below.heap_setCell _ _ _ _ (by show ¬ a = Q; omega)]
    show (((wo.setCell ⟨P, 0, none⟩ (.pointer (some ⟨Q, 0, none⟩))).alloc o1).alloc (.cells #[.int .i64 0] T)).heap[a]? = _
    rw [Below.heap_alloc _ _ _ (by simp; omega), Below.heap_alloc _ _ _ (by simp; omega)]
  have hR2 : (wo.setCell ⟨P, 0, none⟩ (.pointer (some ⟨Q, 0, none⟩))).heap[R]? = wo.heap[R]? := Below.heap_setCell _ _ _ _ (fun h => hne h.symm)
  refine ⟨?_, ?_, ?_, ?_, ?_⟩
  · rw [World.cell?_of_block (hblk P hPo)]
    exact World.cell?_setCell_same _ _ _ hp
  · refine World.cell?_setCell_same _ _ _ (u := .int .i64 0) ?_
    exact cell_of_heap (heap_top _ _ Q (by simp; omega)) 0 rfl
  · rw [World.cell?_of_block ((hblk R hRo).trans hR2)]
    exact hr
  · rw [World.frozen?_of_block ((hblk R hRo).trans hR2)]
    exact hf
  · exact ⟨rfl, rfl, rfl, by simp [World.setCell, World.drew]; omega, fun a ha hne => (hblk a ha).trans (Below.heap_setCell _ _ _ _ (fun h => hne (by rw [show a = P from h])))⟩

/-- Where nothing is found, nothing is written. -/
def NoneKeeps (o : Option Value) (w w' : World) : Prop := o = none → Below w.heap.size w w'

/-- The relation of the loop of asType. -/
def AsVRel (w1 : World) (ns : List Nd) (adr : Nat → Nat) (sl : Nat → Value) (H : Nat → Option Value) (i gk : Nat) (v0 v5 : Value) (wr : World) : Prop :=
  ∃ j, i ≤ j ∧ isThere ns j = true ∧ ns.length - j ≤ gk ∧ v0 = valOf ns adr sl j ∧ (treeOf ns i).findSome? H = (treeOf ns j).findSome? H ∧ Below w1.heap.size w1 wr ∧ v5 = .bool false

set_option maxRecDepth 100000 in
set_option maxHeartbeats 8000000 in
theorem asV_any {w0 : World} {ns : List Nd} {adr : Nat → Nat} {sl : Nat → Value} {base P : Nat} (L : Lies w0 ns adr sl base 0) (hP : w0.heap.size ≤ P) :
    ∀ (m i : Nat) (w : World), ns.length - i ≤ m → isThere ns i = true → Below w0.heap.size w0 w → w.heap[P]? = some (.cells #[.pointer none] 74 (0, 0)) →
    Calls Try.prog 40 #[valOf ns adr sl i, .pointer (some ⟨P, 0, none⟩)] w fun e w' => e = .returned (.tuple #[((treeOf ns i).findSome? (hitV ns adr)).getD (.agg #[.int .i64 0]), .bool ((treeOf ns i).findSome? (hitV ns adr)).isSome]) ∧ w.grownBy w' (some P) ∧ NoneKeeps ((treeOf ns i).findSome? (hitV ns adr)) w w' := by
  intro m
  induction m with
  | zero => intro i w hm hi; have := isThere_lt hi; omega
  | succ m ih =>
    intro i w hm hi hw hpp
    have IH := Lib.hid ih
    have HL := Lib.hid L
    clear ih L
    have hR0 : AsVRel (w.alloc (.cells #[.int .i64 0] 52)) ns adr sl (hitV ns adr) i (ns.length - i) (valOf ns adr sl i) (.bool false) (w.alloc (.cells #[.int .i64 0] 52)) := ⟨i, Nat.le_refl _, hi, Nat.le_refl _, rfl, rfl, Below.refl _ _, rfl⟩
    generalize valOf ns adr sl i = v0 at *
    generalize hH : hitV ns adr = H at *
    have HH := Lib.hid hH
    have HY := Lib.hid (show ∀ (q : Nat) (y : Value), (treeOf ns q).findSome? H = some y → ∃ yk : Int, y = Value.agg #[.int .i64 yk] from fun q y hy => by
      obtain ⟨x, _, hx⟩ := List.exists_of_findSome?_eq_some hy
      rw [← hH] at hx
      unfold hitV at hx
      obtain ⟨yk, _, rfl⟩ := Option.map_eq_some_iff.1 hx
      exact ⟨yk, rfl⟩)
    clear hH
    have R0 := Lib.hid hR0
    have HP := Lib.hid hpp
    clear hR0 hpp
    go_enter Try.func40, Try.ntmps40
    go_wp2_with fail
    go_loopg [0, 5] (ns.length - i) (fun gk v0 v5 wr => AsVRel (w.alloc (.cells #[.int .i64 0] 52)) ns adr sl H i gk v0 v5 wr)
    case atStart => exact R0.out
    case round =>
      obtain ⟨j, hij, hj, hgk, rfl, hany, hbel, rfl⟩ := hrel
      clear R0
      obtain ⟨wo, rfl⟩ : ∃ wo : World, wo = wr := ⟨_, rfl⟩
      obtain ⟨nd, k, hn, hk⟩ := isThere_kind hj
      have hbw : Below w.heap.size w wo := below_box hbel
      have hw1 := hw.trans (hbw.mono hw.size)
      have hL1 := HL.out.keep hw1
      have hmem := hL1.mem j nd k (Nat.zero_le _) hn hj hk
      have hjl := isThere_lt hj
      have hRc : wo.cell? ⟨w.heap.size, 0, none⟩ = some (.int .i64 0) := by rw [hbel.cell (by simp)]; simp
      have hRa : ∀ o, (wo.alloc o).cell? ⟨w.heap.size, 0, none⟩ = some (.int .i64 0) := fun o => cell_keep (below_alloc _ _) hRc
      have hRf : wo.frozen? ⟨w.heap.size, 0, none⟩ = false := by rw [hbel.frozen (by simp)]; simp
      have hRfa : ∀ o, (wo.alloc o).frozen? ⟨w.heap.size, 0, none⟩ = false := fun o => ((below_alloc wo o).frozen (lt_of_cell hRc)).trans hRf
      have hm0 := HL.out.mem j nd k (Nat.zero_le _) hn hj hk
      rw [valOf_there hj hn hk]
      have hat := some_tree ns H j hjl
      have hHj : H j = if k = .value ∨ k = .acts then some (Value.agg #[.int .i64 nd.key]) else none := by
        rw [← HH.out]; exact hitV_of adr hn hk
      have hrow := hL1.row j nd k (Nat.zero_le _) hn hj hk
      have hHP := heap_keep hbw HP.out
      have HK := Lib.hid (And.intro hany (And.intro hat (And.intro hHj (And.intro hw1 (And.intro hrow (And.intro hn (And.intro hk (And.intro hHP hbw))))))))
      have hso := hbel.size
      simp only [World.size_alloc] at hso
      clear hany hat hHj hrow hL1 hHP
      obtain ⟨kd, key, text, kids⟩ := nd
      cases k
      case text =>
        simp only [errBy] at ⊢
        have h1 := fun v xT w => toV_other 114 v xT (by decide) w
        have h0 := asM_text
        have h2 := one_text
        have h3 := many_text
        have hF : (treeOf ns i).findSome? H = none := by rw [HK.out.1, HK.out.2.1, HK.out.2.2.1, kidsOf_none HK.out.2.2.2.2.2.1 HK.out.2.2.2.2.2.2.1 (by simp)]; simp
        have HF := Lib.hid hF
        clear hF hmem hn hk hm0
        go_wp2_with fail
        refine bodyPost_ret (v := .tuple #[.agg #[.int .i64 0], .bool false]) (by simp [results, Try.results40, go_sem, hRa]) rfl ?_
        exact ⟨by rw [HF.out]; rfl, gB_of P (HK.out.2.2.2.2.2.2.2.2.alloc HK.out.2.2.2.2.2.2.2.2.size _), fun _ => HK.out.2.2.2.2.2.2.2.2.alloc HK.out.2.2.2.2.2.2.2.2.size _⟩
      case value =>
        simp only [errBy] at ⊢
        have hF : (treeOf ns i).findSome? H = some (Value.agg #[.int .i64 key]) := by rw [HK.out.1, HK.out.2.1, HK.out.2.2.1]; simp
        have h1 := toV_same
        have HF := Lib.hid hF
        clear hF hmem hn hk hm0
        go_wp2_with fail
        refine bodyPost_ret (v := .tuple #[.agg #[.int .i64 key], .bool true]) (by have hc := World.cell?_setCell_same (wo.alloc (.cells #[.int .i64 key] 52)) ⟨w.heap.size, 0, none⟩ (.int .i64 key) (hRa _); simp [results, Try.results40, go_sem, hc]) rfl ?_
        exact ⟨by rw [HF.out]; rfl, gB_of P (by first | exact (HK.out.2.2.2.2.2.2.2.2.alloc HK.out.2.2.2.2.2.2.2.2.size _).setCell (Nat.le_refl _) _ | exact (HK.out.2.2.2.2.2.2.2.2.setCell (p := ⟨w.heap.size, 0, none⟩) (Nat.le_refl _) _).alloc (by simp; exact HK.out.2.2.2.2.2.2.2.2.size) _), fun hx => by rw [HF.out] at hx; cases hx⟩
      case list =>
        simp only [errBy] at ⊢
        have h1 := fun v xT w => toV_other 80 v xT (by decide) w
        have h0 := asM_list
        have h2 := one_list
        have h3 := many_list
        have hF : (treeOf ns i).findSome? H = none := by rw [HK.out.1, HK.out.2.1, HK.out.2.2.1, kidsOf_none HK.out.2.2.2.2.2.1 HK.out.2.2.2.2.2.2.1 (by simp)]; simp
        have HF := Lib.hid hF
        clear hF hmem hn hk hm0
        go_wp2_with fail
        refine bodyPost_ret (v := .tuple #[.agg #[.int .i64 0], .bool false]) (by simp [results, Try.results40, go_sem, hRa]) rfl ?_
        exact ⟨by rw [HF.out]; rfl, gB_of P (HK.out.2.2.2.2.2.2.2.2.alloc HK.out.2.2.2.2.2.2.2.2.size _), fun _ => HK.out.2.2.2.2.2.2.2.2.alloc HK.out.2.2.2.2.2.2.2.2.size _⟩
      case wrap =>
        simp only [errBy] at ⊢
        simp only [blkBy] at hmem
        have h1 := fun v xT w => toV_other 66 v xT (by decide) w
        have h0 := asM_wrap
        have h2 := one_wrap
        have h3 := methU_wrap
        clear hn hk hm0
        rcases kidsOf_single HK.out.2.2.2.2.2.1 HK.out.2.2.2.2.2.2.1 (by simp) with hN | ⟨q, hN, hq, hjq⟩
        · have hF : (treeOf ns i).findSome? H = none := by rw [HK.out.1, HK.out.2.1, HK.out.2.2.1, hN]; simp
          have HF := Lib.hid hF
          have HU := Lib.hid (fun W (hW : Below wo.heap.size wo W) => unwrap_wrap (adr j) .nilIface W (by rw [← kidVal_nil hN]; exact cell_keep hW (cell_of_heap hmem 1 rfl)))
          clear hF hN hmem
          go_wp2_with (go_at_call 75; refine (HU.out _ (below_alloc _ _)).mono ?_; rintro e w6 ⟨rfl, rfl⟩)
          refine bodyPost_ret (v := .tuple #[.agg #[.int .i64 0], .bool false]) (by simp [results, Try.results40, go_sem, hRa]) rfl ?_
          exact ⟨by rw [HF.out]; rfl, gB_of P (HK.out.2.2.2.2.2.2.2.2.alloc HK.out.2.2.2.2.2.2.2.2.size _), fun _ => HK.out.2.2.2.2.2.2.2.2.alloc HK.out.2.2.2.2.2.2.2.2.size _⟩
        · have hF : (treeOf ns i).findSome? H = (treeOf ns q).findSome? H := by rw [HK.out.1, HK.out.2.1, HK.out.2.2.1, hN]; simp
          obtain ⟨t, u, hv⟩ := valOf_iface (adr := adr) (sl := sl) hq
          have HF := Lib.hid (And.intro hF hv)
          have HU := Lib.hid (fun W (hW : Below wo.heap.size wo W) => unwrap_wrap (adr j) (.iface t u) W (by rw [← hv, ← kidVal_one hN]; exact cell_keep hW (cell_of_heap hmem 1 rfl)))
          clear hF hN hmem hv
          go_wp2_with (go_at_call 75; refine (HU.out _ (below_alloc _ _)).mono ?_; rintro e w6 ⟨rfl, rfl⟩)
          go_roundg (ns.length - q)
          case measure => omega
          case rel => exact ⟨q, by omega, hq, Nat.le_refl _, HF.out.2.symm, HF.out.1, hbel.alloc hbel.size _, rfl⟩
      case many =>
        simp only [errBy] at ⊢
        simp only [blkBy] at hmem
        have h1 := fun v xT w => toV_other 62 v xT (by decide) w
        have h0 := asM_many
        have h2 := one_many
        have h3 := methU_many
        have h4 := many_many
        have hneP : ¬ P = w.heap.size := by have := lt_of_heap HP.out; omega
        clear hn hk hm0
        have hF : (treeOf ns i).findSome? H = (kidsOf ns j).findSome? fun q => (treeOf ns q).findSome? H := by rw [HK.out.1, HK.out.2.1, HK.out.2.2.1]; simp
        have hrow := Vals.of_own (HK.out.2.2.2.2.1 (by simp))
        obtain ⟨SA, sc, hsl, hscl, hscm⟩ := hrow.form
        rw [List.length_map] at hsl hscl
        rw [hsl] at hmem hrow
        simp only [maxLen] at hscm
        have HU := Lib.hid (fun W (hW : Below wo.heap.size wo W) => unwrap_many (adr j) _ W (cell_keep hW (cell_of_heap hmem 1 rfl)))
        have HF := Lib.hid (And.intro hF hrow)
        clear hF hmem hrow hsl
        go_wp2_with (go_at_call 73; refine (HU.out _ (below_alloc _ _)).mono ?_; rintro e w6 ⟨rfl, rfl⟩)
        go_loopw [5, 65] (fun v5 v65 wr => ∃ c : Nat, c ≤ (kidsOf ns j).length ∧ v5 = .bool false ∧ v65 = .int .i64 c ∧ ((kidsOf ns j).take c).findSome? (fun q => (treeOf ns q).findSome? H) = none ∧ Below wo.heap.size wo wr) (fun _ v65 _ => (kidsOf ns j).length - (intOf v65).toNat)
        case atStart => exact ⟨0, Nat.zero_le _, rfl, rfl, by simp, below_alloc _ _⟩
        case round =>
          obtain ⟨c, hc, rfl, rfl, hno, hb2⟩ := hrel
          have HNO := Lib.hid hno
          have hs2 := hb2.size
          clear hno
          have hRw : wr.cell? ⟨w.heap.size, 0, none⟩ = some (.int .i64 0) := cell_keep hb2 hRc
          have hRwf : wr.frozen? ⟨w.heap.size, 0, none⟩ = false := (hb2.frozen (lt_of_cell hRc)).trans hRf
          by_cases hlt : c < (kidsOf ns j).length
          · obtain ⟨b, off, rfl, c0⟩ := (HF.out.2.keep hb2).at (k := c) (x := valOf ns adr sl (kidsOf ns j)[c]) (by simp [hlt])
            have hq := kidsOf_mem (List.getElem_mem hlt)
            have HS := Lib.hid (show ((kidsOf ns j).take (c + 1)).findSome? (fun q => (treeOf ns q).findSome? H) = (treeOf ns (kidsOf ns j)[c]).findSome? H by
              rw [List.take_succ_eq_append_getElem hlt, findSome_append, HNO.out]; simp)
            have HS2 := Lib.hid (show ∀ y, (treeOf ns (kidsOf ns j)[c]).findSome? H = some y → (kidsOf ns j).findSome? (fun q => (treeOf ns q).findSome? H) = some y from fun y h => by
              rw [← List.take_append_drop c (kidsOf ns j), findSome_append, HNO.out, List.drop_eq_getElem_cons hlt, List.findSome?_cons, h]; rfl)
            generalize (kidsOf ns j)[c] = q at *
            have hcall := IH.out q wr (by omega) hq.2.2 (HK.out.2.2.2.1.trans (hb2.mono HK.out.2.2.2.1.size)) (heap_keep hb2 HK.out.2.2.2.2.2.2.2.1)
            obtain ⟨t, u, hv⟩ := valOf_iface (adr := adr) (sl := sl) hq.2.2
            rw [hv] at hcall c0
            clear hv
            cases hA : (treeOf ns q).findSome? H with
            | some y =>
              have hF2 : (treeOf ns i).findSome? H = some y := by rw [HF.out.1]; exact HS2.out y hA
              rw [hA] at hcall
              obtain ⟨yk, rfl⟩ : ∃ yk : Int, y = Value.agg #[.int .i64 yk] := HY.out _ _ hA
              simp only [Option.getD_some, Option.isSome_some] at hcall
              have HC := Lib.hid hcall
              have HF2 := Lib.hid hF2
              clear hcall hF2 hA
              go_wp2_with (go_at_call 40; refine HC.out.mono ?_; rintro e w7 ⟨rfl, hb7, _⟩; have p3 : w7.cell? ⟨w.heap.size, 0, none⟩ = some (.int .i64 0) := (World.cell?_of_block (hb7.block w.heap.size (lt_of_cell hRw) (fun h => hneP (by injection h with h; exact h.symm)))).trans hRw; have p4 : w7.frozen? ⟨w.heap.size, 0, none⟩ = false := (World.frozen?_of_block (hb7.block w.heap.size (lt_of_cell hRw) (fun h => hneP (by injection h with h; exact h.symm)))).trans hRwf; have p5 : ∀ o, (w7.alloc o).frozen? ⟨w.heap.size, 0, none⟩ = false := (fun o => ((below_alloc w7 o).frozen (lt_of_cell p3)).trans p4); have p6 : ∀ o, (w7.alloc o).cell? ⟨w.heap.size, 0, none⟩ = some (.int .i64 0) := (fun o => cell_keep (below_alloc _ _) p3))
              refine bodyPost_ret (v := .tuple #[.agg #[.int .i64 yk], .bool true]) (by have hc := World.cell?_setCell_same (w7.alloc (.cells #[.int .i64 yk] 52)) ⟨w.heap.size, 0, none⟩ (.int .i64 yk) (p6 _); simp [results, Try.results40, go_sem, hc]) rfl ?_
              have hg7 : w.grownBy w7 (some P) := gB_before (HK.out.2.2.2.2.2.2.2.2.trans (hb2.mono HK.out.2.2.2.2.2.2.2.2.size)) hb7
              exact ⟨by rw [HF2.out]; rfl, by first | exact gB_set (gB_after hg7 (below_alloc _ _)) (Nat.le_refl _) _ | exact gB_after (gB_set hg7 (Nat.le_refl _) _) (below_alloc _ _), fun hx => by rw [HF2.out] at hx; cases hx⟩
            | none =>
              rw [hA] at hcall
              simp only [Option.getD_none, Option.isSome_none] at hcall
              have HC := Lib.hid hcall
              have HA := Lib.hid hA
              clear hcall hA
              go_wp2_with (go_at_call 40; refine HC.out.mono ?_; rintro e w7 ⟨rfl, _, hb7⟩; replace hb7 := hb7 rfl)
              go_roundw
              case rel => exact ⟨c + 1, hlt, rfl, by go_num, by rw [HS.out]; exact HA.out, by first | exact hb2.trans (hb7.mono hb2.size) | exact (hb2.trans (hb7.mono hb2.size)).alloc (Nat.le_trans hb2.size hb7.size) _⟩
              case measure => simp [intOf]; omega
          · obtain rfl : c = (kidsOf ns j).length := by omega
            have hno := HNO.out
            rw [List.take_length] at hno
            have HF2 := Lib.hid (show (treeOf ns i).findSome? H = none by rw [HF.out.1]; exact hno)
            clear hno
            go_wp2_with fail
            refine bodyPost_ret (v := .tuple #[.agg #[.int .i64 0], .bool false]) (by simp [results, Try.results40, go_sem, hRw]) rfl ?_
            exact ⟨by rw [HF2.out]; rfl, gB_of P (HK.out.2.2.2.2.2.2.2.2.trans (hb2.mono HK.out.2.2.2.2.2.2.2.2.size)), fun _ => HK.out.2.2.2.2.2.2.2.2.trans (hb2.mono HK.out.2.2.2.2.2.2.2.2.size)⟩
      case join =>
        simp only [errBy] at ⊢
        simp only [blkBy] at hmem
        have h1 := fun v xT w => toV_other 117 v xT (by decide) w
        have h0 := asM_join
        have h2 := one_join
        have h3 := methU_join
        have h4 := many_join
        have hneP : ¬ P = w.heap.size := by have := lt_of_heap HP.out; omega
        clear hn hk hm0
        have hF : (treeOf ns i).findSome? H = (kidsOf ns j).findSome? fun q => (treeOf ns q).findSome? H := by rw [HK.out.1, HK.out.2.1, HK.out.2.2.1]; simp
        have hrow := Vals.of_own (HK.out.2.2.2.2.1 (by simp))
        obtain ⟨SA, sc, hsl, hscl, hscm⟩ := hrow.form
        rw [List.length_map] at hsl hscl
        rw [hsl] at hmem hrow
        simp only [maxLen] at hscm
        have HU := Lib.hid (fun W (hW : Below wo.heap.size wo W) => unwrap_join (adr j) _ W (cell_keep hW (cell_of_heap hmem 0 rfl)))
        have HF := Lib.hid (And.intro hF hrow)
        clear hF hmem hrow hsl
        go_wp2_with (go_at_call 85; refine (HU.out _ (below_alloc _ _)).mono ?_; rintro e w6 ⟨rfl, rfl⟩)
        go_loopw [5, 65] (fun v5 v65 wr => ∃ c : Nat, c ≤ (kidsOf ns j).length ∧ v5 = .bool false ∧ v65 = .int .i64 c ∧ ((kidsOf ns j).take c).findSome? (fun q => (treeOf ns q).findSome? H) = none ∧ Below wo.heap.size wo wr) (fun _ v65 _ => (kidsOf ns j).length - (intOf v65).toNat)
        case atStart => exact ⟨0, Nat.zero_le _, rfl, rfl, by simp, below_alloc _ _⟩
        case round =>
          obtain ⟨c, hc, rfl, rfl, hno, hb2⟩ := hrel
          have HNO := Lib.hid hno
          have hs2 := hb2.size
          clear hno
          have hRw : wr.cell? ⟨w.heap.size, 0, none⟩ = some (.int .i64 0) := cell_keep hb2 hRc
          have hRwf : wr.frozen? ⟨w.heap.size, 0, none⟩ = false := (hb2.frozen (lt_of_cell hRc)).trans hRf
          by_cases hlt : c < (kidsOf ns j).length
          · obtain ⟨b, off, rfl, c0⟩ := (HF.out.2.keep hb2).at (k := c) (x := valOf ns adr sl (kidsOf ns j)[c]) (by simp [hlt])
            have hq := kidsOf_mem (List.getElem_mem hlt)
            have HS := Lib.hid (show ((kidsOf ns j).take (c + 1)).findSome? (fun q => (treeOf ns q).findSome? H) = (treeOf ns (kidsOf ns j)[c]).findSome? H by
              rw [List.take_succ_eq_append_getElem hlt, findSome_append, HNO.out]; simp)
            have HS2 := Lib.hid (show ∀ y, (treeOf ns (kidsOf ns j)[c]).findSome? H = some y → (kidsOf ns j).findSome? (fun q => (treeOf ns q).findSome? H) = some y from fun y h => by
              rw [← List.take_append_drop c (kidsOf ns j), findSome_append, HNO.out, List.drop_eq_getElem_cons hlt, List.findSome?_cons, h]; rfl)
            generalize (kidsOf ns j)[c] = q at *
            have hcall := IH.out q wr (by omega) hq.2.2 (HK.out.2.2.2.1.trans (hb2.mono HK.out.2.2.2.1.size)) (heap_keep hb2 HK.out.2.2.2.2.2.2.2.1)
            obtain ⟨t, u, hv⟩ := valOf_iface (adr := adr) (sl := sl) hq.2.2
            rw [hv] at hcall c0
            clear hv
            cases hA : (treeOf ns q).findSome? H with
            | some y =>
              have hF2 : (treeOf ns i).findSome? H = some y := by rw [HF.out.1]; exact HS2.out y hA
              rw [hA] at hcall
              obtain ⟨yk, rfl⟩ : ∃ yk : Int, y = Value.agg #[.int .i64 yk] := HY.out _ _ hA
              simp only [Option.getD_some, Option.isSome_some] at hcall
              have HC := Lib.hid hcall
              have HF2 := Lib.hid hF2
              clear hcall hF2 hA
              go_wp2_with (go_at_call 40; refine HC.out.mono ?_; rintro e w7 ⟨rfl, hb7, _⟩; have p3 : w7.cell? ⟨w.heap.size, 0, none⟩ = some (.int .i64 0) := (World.cell?_of_block (hb7.block w.heap.size (lt_of_cell hRw) (fun h => hneP (by injection h with h; exact h.symm)))).trans hRw; have p4 : w7.frozen? ⟨w.heap.size, 0, none⟩ = false := (World.frozen?_of_block (hb7.block w.heap.size (lt_of_cell hRw) (fun h => hneP (by injection h with h; exact h.symm)))).trans hRwf; have p5 : ∀ o, (w7.alloc o).frozen? ⟨w.heap.size, 0, none⟩ = false := (fun o => ((below_alloc w7 o).frozen (lt_of_cell p3)).trans p4); have p6 : ∀ o, (w7.alloc o).cell? ⟨w.heap.size, 0, none⟩ = some (.int .i64 0) := (fun o => cell_keep (below_alloc _ _) p3))
              refine bodyPost_ret (v := .tuple #[.agg #[.int .i64 yk], .bool true]) (by have hc := World.cell?_setCell_same (w7.alloc (.cells #[.int .i64 yk] 52)) ⟨w.heap.size, 0, none⟩ (.int .i64 yk) (p6 _); simp [results, Try.results40, go_sem, hc]) rfl ?_
              have hg7 : w.grownBy w7 (some P) := gB_before (HK.out.2.2.2.2.2.2.2.2.trans (hb2.mono HK.out.2.2.2.2.2.2.2.2.size)) hb7
              exact ⟨by rw [HF2.out]; rfl, by first | exact gB_set (gB_after hg7 (below_alloc _ _)) (Nat.le_refl _) _ | exact gB_after (gB_set hg7 (Nat.le_refl _) _) (below_alloc _ _), fun hx => by rw [HF2.out] at hx; cases hx⟩
            | none =>
              rw [hA] at hcall
              simp only [Option.getD_none, Option.isSome_none] at hcall
              have HC := Lib.hid hcall
              have HA := Lib.hid hA
              clear hcall hA
              go_wp2_with (go_at_call 40; refine HC.out.mono ?_; rintro e w7 ⟨rfl, _, hb7⟩; replace hb7 := hb7 rfl)
              go_roundw
              case rel => exact ⟨c + 1, hlt, rfl, by go_num, by rw [HS.out]; exact HA.out, by first | exact hb2.trans (hb7.mono hb2.size) | exact (hb2.trans (hb7.mono hb2.size)).alloc (Nat.le_trans hb2.size hb7.size) _⟩
              case measure => simp [intOf]; omega
          · obtain rfl : c = (kidsOf ns j).length := by omega
            have hno := HNO.out
            rw [List.take_length] at hno
            have HF2 := Lib.hid (show (treeOf ns i).findSome? H = none by rw [HF.out.1]; exact hno)
            clear hno
            go_wp2_with fail
            refine bodyPost_ret (v := .tuple #[.agg #[.int .i64 0], .bool false]) (by simp [results, Try.results40, go_sem, hRw]) rfl ?_
            exact ⟨by rw [HF2.out]; rfl, gB_of P (HK.out.2.2.2.2.2.2.2.2.trans (hb2.mono HK.out.2.2.2.2.2.2.2.2.size)), fun _ => HK.out.2.2.2.2.2.2.2.2.trans (hb2.mono HK.out.2.2.2.2.2.2.2.2.size)⟩
      case alike =>
        simp only [errBy] at ⊢
        simp only [blkBy] at hmem
        have h1 := fun v xT w => toV_other 88 v xT (by decide) w
        have h0 := asM_alike
        have h2 := one_alike
        have h3 := methU_alike
        clear hn hk hm0
        rcases kidsOf_single HK.out.2.2.2.2.2.1 HK.out.2.2.2.2.2.2.1 (by simp) with hN | ⟨q, hN, hq, hjq⟩
        · have hF : (treeOf ns i).findSome? H = none := by rw [HK.out.1, HK.out.2.1, HK.out.2.2.1, hN]; simp
          have HF := Lib.hid hF
          have HU := Lib.hid (fun W (hW : Below wo.heap.size wo W) => unwrap_alike (adr j) .nilIface W (by rw [← kidVal_nil hN]; exact cell_keep hW (cell_of_heap hmem 1 rfl)))
          clear hF hN hmem
          go_wp2_with (go_at_call 79; refine (HU.out _ (below_alloc _ _)).mono ?_; rintro e w6 ⟨rfl, rfl⟩)
          refine bodyPost_ret (v := .tuple #[.agg #[.int .i64 0], .bool false]) (by simp [results, Try.results40, go_sem, hRa]) rfl ?_
          exact ⟨by rw [HF.out]; rfl, gB_of P (HK.out.2.2.2.2.2.2.2.2.alloc HK.out.2.2.2.2.2.2.2.2.size _), fun _ => HK.out.2.2.2.2.2.2.2.2.alloc HK.out.2.2.2.2.2.2.2.2.size _⟩
        · have hF : (treeOf ns i).findSome? H = (treeOf ns q).findSome? H := by rw [HK.out.1, HK.out.2.1, HK.out.2.2.1, hN]; simp
          obtain ⟨t, u, hv⟩ := valOf_iface (adr := adr) (sl := sl) hq
          have HF := Lib.hid (And.intro hF hv)
          have HU := Lib.hid (fun W (hW : Below wo.heap.size wo W) => unwrap_alike (adr j) (.iface t u) W (by rw [← hv, ← kidVal_one hN]; exact cell_keep hW (cell_of_heap hmem 1 rfl)))
          clear hF hN hmem hv
          go_wp2_with (go_at_call 79; refine (HU.out _ (below_alloc _ _)).mono ?_; rintro e w6 ⟨rfl, rfl⟩)
          go_roundg (ns.length - q)
          case measure => omega
          case rel => exact ⟨q, by omega, hq, Nat.le_refl _, HF.out.2.symm, HF.out.1, hbel.alloc hbel.size _, rfl⟩
      case acts =>
        simp only [errBy] at ⊢
        simp only [blkBy] at hmem
        have h1 := fun v xT w => toV_other 91 v xT (by decide) w
        have h0 := asM_acts
        have hF : (treeOf ns i).findSome? H = some (Value.agg #[.int .i64 key]) := by rw [HK.out.1, HK.out.2.1, HK.out.2.2.1]; simp
        have HF := Lib.hid hF
        have h4 := methA_acts
        have h5 := nilA_acts
        have hcP := cell_of_heap HK.out.2.2.2.2.2.2.2.1 0 rfl
        have hfP := frozen_of_heap HK.out.2.2.2.2.2.2.2.1 0
        have hltP := lt_of_heap HK.out.2.2.2.2.2.2.2.1
        simp only [blkBy] at hm0
        have hk0 := cell_of_heap hm0 0 rfl
        have HA := Lib.hid (fun W (hW : Below w0.heap.size w0 W) hQ hf => actsAs_value (adr j) (wo.heap.size + 1) key 0 W (cell_keep hW hk0) hQ hf)
        have hneP : ¬ P = w.heap.size := by have := lt_of_heap HP.out; omega
        clear hF hmem hn hk hm0 hk0
        go_wp2_with fail
        go_region_with (go_at_call 80; refine (HA.out _ (Below.drew (Below.alloc (Below.alloc (Below.setCell HK.out.2.2.2.1 hP _) (by simp; omega) _) (by simp; omega) _)) (cell_of_heap (heap_top _ _ _ (by simp)) 0 rfl) (frozen_of_heap (heap_top _ _ _ (by simp)) 0)).mono ?_; rintro e w5 ⟨rfl, hw5⟩; have hAW : ActsW wo P (wo.heap.size + 1) w.heap.size key w5 := (by rw [hw5]; exact ActsW.mk' key _ _ rfl hltP hneP hRc hRf hcP); clear hw5; have AW := Lib.hid hAW; obtain ⟨p1, p2, p3, p4, _⟩ := hAW)
        all_goals go_wp2_with fail
        all_goals refine bodyPost_ret (v := .tuple #[.agg #[.int .i64 key], .bool true]) (by have hc := World.cell?_setCell_same w5 ⟨w.heap.size, 0, none⟩ (.int .i64 key) p3; simp [results, Try.results40, go_sem, hc]) rfl ?_
        all_goals exact ⟨by rw [HF.out]; rfl, gB_set (gB_before HK.out.2.2.2.2.2.2.2.2 AW.out.g) (Nat.le_refl _) _, fun hx => by rw [HF.out] at hx; cases hx⟩
end Go.Proofs.Ytnekgmkonhclbaa
