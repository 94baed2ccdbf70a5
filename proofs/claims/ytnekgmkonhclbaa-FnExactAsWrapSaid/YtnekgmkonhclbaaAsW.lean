/-
  The contract of errors.asType over the errors of nodes.
  Conditions: none.
-/
import Derived.Test.YtnekgmkonhclbaaActsAs
import Derived.Test.YtnekgmkonhclbaaAsPlain
import Derived.Test.YtnekgmkonhclbaaAsV
import Derived.Deep.LoopGhost
import Derived.Outline
import Derived.Deep.RegionWith
import Derived.OneCell
namespace Go.Proofs.Ytnekgmkonhclbaa
open Go.RowKit Go.Lib

/-- What a node gives. -/
def hitW (ns : List Nd) (adr : Nat → Nat) (j : Nat) : Option Value := if isKind ns kWrap j then some (Value.pointer (some ⟨adr j, 0, none⟩)) else none

theorem hitW_of {ns : List Nd} {adr : Nat → Nat} {j : Nat} {nd : Nd} {k : K8} (hn : ns[j]? = some nd) (hk : kindOf nd.kind = some k) : hitW ns adr j = if k = .wrap then some (Value.pointer (some ⟨adr j, 0, none⟩)) else none := by
  unfold hitW
  rw [show kWrap = K8.wrap.word from rfl, isKind_of hn hk]
  cases k <;> rfl

/-- The cell that asType keeps a pointer in. -/
def AsPtrW (P : Nat) (w : World) : Prop := ∃ p : Option Addr, w.heap[P]? = some (.cells #[.pointer p] 97 (0, 0))
theorem AsPtrW.keep {w w' : World} {P : Nat} (h : AsPtrW P w) (hb : Below w.heap.size w w') : AsPtrW P w' := by
  obtain ⟨p, h⟩ := h
  exact ⟨p, heap_keep hb h⟩
theorem AsPtrW.set {w : World} {P : Nat} (h : AsPtrW P w) (q : Option Addr) (o : Obj) : w.grownBy (((w.setCell ⟨P, 0, none⟩ (.pointer q)).alloc o).drew) (some P) ∧ AsPtrW P (((w.setCell ⟨P, 0, none⟩ (.pointer q)).alloc o).drew) := by
  obtain ⟨p, h⟩ := h
  have hlt := lt_of_heap h
  refine ⟨⟨rfl, rfl, rfl, by simp [World.drew], fun a ha hne => ?_⟩, ⟨q, ?_⟩⟩
  · show ((w.setCell ⟨P, 0, none⟩ (.pointer q)).alloc o).heap[a]? = _
    rw [Below.heap_alloc _ _ _ (by simp; omega)]
    exact Below.heap_setCell _ _ _ _ (fun h => hne (by rw [show a = P from h]))
  · show ((w.setCell ⟨P, 0, none⟩ (.pointer q)).alloc o).heap[P]? = _
    rw [Below.heap_alloc _ _ _ (by simp; omega)]
    exact one_setCell h

/-- The relation of the loop of asType. -/
def AsWRel (w : World) (P : Nat) (ns : List Nd) (adr : Nat → Nat) (sl : Nat → Value) (H : Nat → Option Value) (i gk : Nat) (v0 v4 v5 : Value) (wr : World) : Prop :=
  ∃ j, i ≤ j ∧ isThere ns j = true ∧ ns.length - j ≤ gk ∧ v0 = valOf ns adr sl j ∧ (treeOf ns i).findSome? H = (treeOf ns j).findSome? H ∧ w.grownBy wr (some P) ∧ AsPtrW P wr ∧ v4 = .pointer none ∧ v5 = .bool false

set_option maxRecDepth 100000 in
set_option maxHeartbeats 8000000 in
theorem asW_any {w0 : World} {ns : List Nd} {adr : Nat → Nat} {sl : Nat → Value} {base P : Nat} (L : Lies w0 ns adr sl base 0) (hP : w0.heap.size ≤ P) :
    ∀ (m i : Nat) (w : World), ns.length - i ≤ m → isThere ns i = true → Below w0.heap.size w0 w → AsPtrW P w →
    Calls Try.prog 47 #[valOf ns adr sl i, .pointer (some ⟨P, 0, none⟩)] w fun e w' => e = .returned (.tuple #[((treeOf ns i).findSome? (hitW ns adr)).getD (.pointer none), .bool ((treeOf ns i).findSome? (hitW ns adr)).isSome]) ∧ w.grownBy w' (some P) ∧ AsPtrW P w' := by
  intro m
  induction m with
  | zero => intro i w hm hi; have := isThere_lt hi; omega
  | succ m ih =>
    intro i w hm hi hw hpp
    have IH := Lib.hid ih
    have HL := Lib.hid L
    clear ih L
    have hR0 : AsWRel w P ns adr sl (hitW ns adr) i (ns.length - i) (valOf ns adr sl i) (.pointer none) (.bool false) w := ⟨i, Nat.le_refl _, hi, Nat.le_refl _, rfl, rfl, World.grownBy.refl _ _, hpp, rfl, rfl⟩
    generalize valOf ns adr sl i = v0 at *
    generalize hH : hitW ns adr = H at *
    have HH := Lib.hid hH
    clear hH hpp
    have R0 := Lib.hid hR0
    clear hR0
    go_enter Try.func47, Try.ntmps47
    go_wp2_with fail
    go_loopg [0, 4, 5] (ns.length - i) (fun gk v0 v4 v5 wr => AsWRel w P ns adr sl H i gk v0 v4 v5 wr)
    case atStart => exact R0.out
    case round =>
      obtain ⟨j, hij, hj, hgk, rfl, hany, hgr, hpt, rfl, rfl⟩ := hrel
      clear R0
      obtain ⟨wo, rfl⟩ : ∃ wo : World, wo = wr := ⟨_, rfl⟩
      obtain ⟨nd, k, hn, hk⟩ := isThere_kind hj
      have hw1 : Below w0.heap.size w0 wo := hw.grown hgr hw.size (fun a ha => by injection ha with ha; omega)
      have hmem := HL.out.mem j nd k (Nat.zero_le _) hn hj hk
      have hjl := isThere_lt hj
      rw [valOf_there hj hn hk]
      have hat := some_tree ns H j hjl
      have hHj : H j = if k = .wrap then some (Value.pointer (some ⟨adr j, 0, none⟩)) else none := by
        rw [← HH.out]; exact hitW_of hn hk
      have hrow := HL.out.row j nd k (Nat.zero_le _) hn hj hk
      have HK := Lib.hid (And.intro hany (And.intro hat (And.intro hHj (And.intro hw1 (And.intro hrow (And.intro hn (And.intro hk (And.intro hpt hgr))))))))
      have hso := hgr.size
      have hsw := hw1.size
      clear hany hat hHj hrow hpt hw1
      obtain ⟨kd, key, text, kids⟩ := nd
      cases k
      case text =>
        simp only [errBy] at ⊢
        have h1 := fun v xT w => toW_other 114 v xT (by decide) w
        have h0 := asM_text
        have h2 := one_text
        have h3 := many_text
        have hF : (treeOf ns i).findSome? H = none := by rw [HK.out.1, HK.out.2.1, HK.out.2.2.1, kidsOf_none HK.out.2.2.2.2.2.1 HK.out.2.2.2.2.2.2.1 (by simp)]; simp
        have HF := Lib.hid hF
        clear hF hmem hn hk
        go_wp2_with fail
        refine bodyPost_ret (v := .tuple #[.pointer none, .bool false]) (by simp [results, Try.results47, go_sem]) rfl ?_
        exact ⟨by rw [HF.out]; rfl, hgr, HK.out.2.2.2.2.2.2.2.1⟩
      case value =>
        simp only [errBy] at ⊢
        have h1 := fun v xT w => toW_other 52 v xT (by decide) w
        have h0 := asM_value
        have h2 := one_value
        have h3 := many_value
        have hF : (treeOf ns i).findSome? H = none := by rw [HK.out.1, HK.out.2.1, HK.out.2.2.1, kidsOf_none HK.out.2.2.2.2.2.1 HK.out.2.2.2.2.2.2.1 (by simp)]; simp
        have HF := Lib.hid hF
        clear hF hmem hn hk
        go_wp2_with fail
        refine bodyPost_ret (v := .tuple #[.pointer none, .bool false]) (by simp [results, Try.results47, go_sem]) rfl ?_
        exact ⟨by rw [HF.out]; rfl, hgr, HK.out.2.2.2.2.2.2.2.1⟩
      case list =>
        simp only [errBy] at ⊢
        have h1 := fun v xT w => toW_other 80 v xT (by decide) w
        have h0 := asM_list
        have h2 := one_list
        have h3 := many_list
        have hF : (treeOf ns i).findSome? H = none := by rw [HK.out.1, HK.out.2.1, HK.out.2.2.1, kidsOf_none HK.out.2.2.2.2.2.1 HK.out.2.2.2.2.2.2.1 (by simp)]; simp
        have HF := Lib.hid hF
        clear hF hmem hn hk
        go_wp2_with fail
        refine bodyPost_ret (v := .tuple #[.pointer none, .bool false]) (by simp [results, Try.results47, go_sem]) rfl ?_
        exact ⟨by rw [HF.out]; rfl, hgr, HK.out.2.2.2.2.2.2.2.1⟩
      case wrap =>
        simp only [errBy] at ⊢
        simp only [blkBy] at hmem
        have hF : (treeOf ns i).findSome? H = some (Value.pointer (some ⟨adr j, 0, none⟩)) := by rw [HK.out.1, HK.out.2.1, HK.out.2.2.1]; simp
        have h1 := toW_same
        have HF := Lib.hid hF
        clear hF hmem hn hk
        go_wp2_with fail
        refine bodyPost_ret (v := .tuple #[.pointer (some ⟨adr j, 0, none⟩), .bool true]) (by simp [results, Try.results47, go_sem]) rfl ?_
        exact ⟨by rw [HF.out]; rfl, hgr, HK.out.2.2.2.2.2.2.2.1⟩
      case many =>
        simp only [errBy] at ⊢
        simp only [blkBy] at hmem
        have h1 := fun v xT w => toW_other 62 v xT (by decide) w
        have h0 := asM_many
        have h2 := one_many
        have h3 := methU_many
        have h4 := many_many
        clear hn hk
        have hF : (treeOf ns i).findSome? H = (kidsOf ns j).findSome? fun q => (treeOf ns q).findSome? H := by rw [HK.out.1, HK.out.2.1, HK.out.2.2.1]; simp
        have hrow := (Vals.of_own (HK.out.2.2.2.2.1 (by simp))).keep HK.out.2.2.2.1
        obtain ⟨SA, sc, hsl, hscl, hscm⟩ := hrow.form
        rw [List.length_map] at hsl hscl
        rw [hsl] at hmem hrow
        simp only [maxLen] at hscm
        have HU := Lib.hid (unwrap_many (adr j) _ wo (cell_keep HK.out.2.2.2.1 (cell_of_heap hmem 1 rfl)))
        have hrow0 := (Vals.of_own (HK.out.2.2.2.2.1 (by simp)))
        rw [hsl] at hrow0
        have HF := Lib.hid (And.intro hF hrow0)
        clear hF hmem hrow hsl hrow0
        go_wp2_with (go_at_call 73; refine HU.out.mono ?_; rintro e w6 ⟨rfl, rfl⟩)
        go_loopw [4, 5, 65] (fun v4 v5 v65 wr => ∃ c : Nat, c ≤ (kidsOf ns j).length ∧ v4 = .pointer none ∧ v5 = .bool false ∧ v65 = .int .i64 c ∧ ((kidsOf ns j).take c).findSome? (fun q => (treeOf ns q).findSome? H) = none ∧ w.grownBy wr (some P) ∧ AsPtrW P wr) (fun _ _ v65 _ => (kidsOf ns j).length - (intOf v65).toNat)
        case atStart => exact ⟨0, Nat.zero_le _, rfl, rfl, rfl, by simp, hgr, HK.out.2.2.2.2.2.2.2.1⟩
        case round =>
          obtain ⟨c, hc, rfl, rfl, rfl, hno, hg2, hp2⟩ := hrel
          have HNO := Lib.hid hno
          have HP2 := Lib.hid hp2
          have hs2 := hg2.size
          have hb0 : Below w0.heap.size w0 wr := hw.grown hg2 hw.size (fun a ha => by injection ha with ha; omega)
          clear hno hp2
          by_cases hlt : c < (kidsOf ns j).length
          · obtain ⟨b, off, rfl, c0⟩ := (HF.out.2.keep hb0).at (k := c) (x := valOf ns adr sl (kidsOf ns j)[c]) (by simp [hlt])
            have hq := kidsOf_mem (List.getElem_mem hlt)
            have HS := Lib.hid (show ((kidsOf ns j).take (c + 1)).findSome? (fun q => (treeOf ns q).findSome? H) = (treeOf ns (kidsOf ns j)[c]).findSome? H by
              rw [List.take_succ_eq_append_getElem hlt, findSome_append, HNO.out]; simp)
            have HS2 := Lib.hid (show ∀ y, (treeOf ns (kidsOf ns j)[c]).findSome? H = some y → (kidsOf ns j).findSome? (fun q => (treeOf ns q).findSome? H) = some y from fun y h => by
              rw [← List.take_append_drop c (kidsOf ns j), findSome_append, HNO.out, List.drop_eq_getElem_cons hlt, List.findSome?_cons, h]; rfl)
            generalize (kidsOf ns j)[c] = q at *
            have hcall := IH.out q wr (by omega) hq.2.2 hb0 HP2.out
            obtain ⟨t, u, hv⟩ := valOf_iface (adr := adr) (sl := sl) hq.2.2
            rw [hv] at hcall c0
            clear hv hb0
            cases hA : (treeOf ns q).findSome? H with
            | some y =>
              have hF2 : (treeOf ns i).findSome? H = some y := by rw [HF.out.1]; exact HS2.out y hA
              rw [hA] at hcall
              simp only [Option.getD_some, Option.isSome_some] at hcall
              have HC := Lib.hid hcall
              have HF2 := Lib.hid hF2
              clear hcall hF2 hA
              go_wp2_with (go_at_call 47; refine HC.out.mono ?_; rintro e w7 ⟨rfl, hg7, hp7⟩; have P7 := Lib.hid hp7; clear hp7)
              refine bodyPost_ret (v := .tuple #[y, .bool true]) (by simp [results, Try.results47, go_sem]) rfl ?_
              exact ⟨by rw [HF2.out]; rfl, gB_trans hg2 hg7, P7.out⟩
            | none =>
              rw [hA] at hcall
              simp only [Option.getD_none, Option.isSome_none] at hcall
              have HC := Lib.hid hcall
              have HA := Lib.hid hA
              clear hcall hA
              go_wp2_with (go_at_call 47; refine HC.out.mono ?_; rintro e w7 ⟨rfl, hg7, hp7⟩; have P7 := Lib.hid hp7; clear hp7)
              go_roundw
              case rel => exact ⟨c + 1, hlt, rfl, rfl, by go_num, by rw [HS.out]; exact HA.out, gB_trans hg2 hg7, P7.out⟩
              case measure => simp [intOf]; omega
          · obtain rfl : c = (kidsOf ns j).length := by omega
            have hno := HNO.out
            rw [List.take_length] at hno
            have HF2 := Lib.hid (show (treeOf ns i).findSome? H = none by rw [HF.out.1]; exact hno)
            clear hno
            go_wp2_with fail
            refine bodyPost_ret (v := .tuple #[.pointer none, .bool false]) (by simp [results, Try.results47, go_sem]) rfl ?_
            exact ⟨by rw [HF2.out]; rfl, hg2, HP2.out⟩
      case join =>
        simp only [errBy] at ⊢
        simp only [blkBy] at hmem
        have h1 := fun v xT w => toW_other 117 v xT (by decide) w
        have h0 := asM_join
        have h2 := one_join
        have h3 := methU_join
        have h4 := many_join
        clear hn hk
        have hF : (treeOf ns i).findSome? H = (kidsOf ns j).findSome? fun q => (treeOf ns q).findSome? H := by rw [HK.out.1, HK.out.2.1, HK.out.2.2.1]; simp
        have hrow := (Vals.of_own (HK.out.2.2.2.2.1 (by simp))).keep HK.out.2.2.2.1
        obtain ⟨SA, sc, hsl, hscl, hscm⟩ := hrow.form
        rw [List.length_map] at hsl hscl
        rw [hsl] at hmem hrow
        simp only [maxLen] at hscm
        have HU := Lib.hid (unwrap_join (adr j) _ wo (cell_keep HK.out.2.2.2.1 (cell_of_heap hmem 0 rfl)))
        have hrow0 := (Vals.of_own (HK.out.2.2.2.2.1 (by simp)))
        rw [hsl] at hrow0
        have HF := Lib.hid (And.intro hF hrow0)
        clear hF hmem hrow hsl hrow0
        go_wp2_with (go_at_call 85; refine HU.out.mono ?_; rintro e w6 ⟨rfl, rfl⟩)
        go_loopw [4, 5, 65] (fun v4 v5 v65 wr => ∃ c : Nat, c ≤ (kidsOf ns j).length ∧ v4 = .pointer none ∧ v5 = .bool false ∧ v65 = .int .i64 c ∧ ((kidsOf ns j).take c).findSome? (fun q => (treeOf ns q).findSome? H) = none ∧ w.grownBy wr (some P) ∧ AsPtrW P wr) (fun _ _ v65 _ => (kidsOf ns j).length - (intOf v65).toNat)
        case atStart => exact ⟨0, Nat.zero_le _, rfl, rfl, rfl, by simp, hgr, HK.out.2.2.2.2.2.2.2.1⟩
        case round =>
          obtain ⟨c, hc, rfl, rfl, rfl, hno, hg2, hp2⟩ := hrel
          have HNO := Lib.hid hno
          have HP2 := Lib.hid hp2
          have hs2 := hg2.size
          have hb0 : Below w0.heap.size w0 wr := hw.grown hg2 hw.size (fun a ha => by injection ha with ha; omega)
          clear hno hp2
          by_cases hlt : c < (kidsOf ns j).length
          · obtain ⟨b, off, rfl, c0⟩ := (HF.out.2.keep hb0).at (k := c) (x := valOf ns adr sl (kidsOf ns j)[c]) (by simp [hlt])
            have hq := kidsOf_mem (List.getElem_mem hlt)
            have HS := Lib.hid (show ((kidsOf ns j).take (c + 1)).findSome? (fun q => (treeOf ns q).findSome? H) = (treeOf ns (kidsOf ns j)[c]).findSome? H by
              rw [List.take_succ_eq_append_getElem hlt, findSome_append, HNO.out]; simp)
            have HS2 := Lib.hid (show ∀ y, (treeOf ns (kidsOf ns j)[c]).findSome? H = some y → (kidsOf ns j).findSome? (fun q => (treeOf ns q).findSome? H) = some y from fun y h => by
              rw [← List.take_append_drop c (kidsOf ns j), findSome_append, HNO.out, List.drop_eq_getElem_cons hlt, List.findSome?_cons, h]; rfl)
            generalize (kidsOf ns j)[c] = q at *
            have hcall := IH.out q wr (by omega) hq.2.2 hb0 HP2.out
            obtain ⟨t, u, hv⟩ := valOf_iface (adr := adr) (sl := sl) hq.2.2
            rw [hv] at hcall c0
            clear hv hb0
            cases hA : (treeOf ns q).findSome? H with
            | some y =>
              have hF2 : (treeOf ns i).findSome? H = some y := by rw [HF.out.1]; exact HS2.out y hA
              rw [hA] at hcall
              simp only [Option.getD_some, Option.isSome_some] at hcall
              have HC := Lib.hid hcall
              have HF2 := Lib.hid hF2
              clear hcall hF2 hA
              go_wp2_with (go_at_call 47; refine HC.out.mono ?_; rintro e w7 ⟨rfl, hg7, hp7⟩; have P7 := Lib.hid hp7; clear hp7)
              refine bodyPost_ret (v := .tuple #[y, .bool true]) (by simp [results, Try.results47, go_sem]) rfl ?_
              exact ⟨by rw [HF2.out]; rfl, gB_trans hg2 hg7, P7.out⟩
            | none =>
              rw [hA] at hcall
              simp only [Option.getD_none, Option.isSome_none] at hcall
              have HC := Lib.hid hcall
              have HA := Lib.hid hA
              clear hcall hA
              go_wp2_with (go_at_call 47; refine HC.out.mono ?_; rintro e w7 ⟨rfl, hg7, hp7⟩; have P7 := Lib.hid hp7; clear hp7)
              go_roundw
              case rel => exact ⟨c + 1, hlt, rfl, rfl, by go_num, by rw [HS.out]; exact HA.out, gB_trans hg2 hg7, P7.out⟩
              case measure => simp [intOf]; omega
          · obtain rfl : c = (kidsOf ns j).length := by omega
            have hno := HNO.out
            rw [List.take_length] at hno
            have HF2 := Lib.hid (show (treeOf ns i).findSome? H = none by rw [HF.out.1]; exact hno)
            clear hno
            go_wp2_with fail
            refine bodyPost_ret (v := .tuple #[.pointer none, .bool false]) (by simp [results, Try.results47, go_sem]) rfl ?_
            exact ⟨by rw [HF2.out]; rfl, hg2, HP2.out⟩
      case alike =>
        simp only [errBy] at ⊢
        simp only [blkBy] at hmem
        have h1 := fun v xT w => toW_other 88 v xT (by decide) w
        have h0 := asM_alike
        have h2 := one_alike
        have h3 := methU_alike
        clear hn hk
        rcases kidsOf_single HK.out.2.2.2.2.2.1 HK.out.2.2.2.2.2.2.1 (by simp) with hN | ⟨q, hN, hq, hjq⟩
        · have hF : (treeOf ns i).findSome? H = none := by rw [HK.out.1, HK.out.2.1, HK.out.2.2.1, hN]; simp
          have HF := Lib.hid hF
          have HU := Lib.hid (unwrap_alike (adr j) .nilIface wo (by rw [← kidVal_nil hN]; exact cell_keep HK.out.2.2.2.1 (cell_of_heap hmem 1 rfl)))
          clear hF hN hmem
          go_wp2_with (go_at_call 79; refine HU.out.mono ?_; rintro e w6 ⟨rfl, rfl⟩)
          refine bodyPost_ret (v := .tuple #[.pointer none, .bool false]) (by simp [results, Try.results47, go_sem]) rfl ?_
          exact ⟨by rw [HF.out]; rfl, hgr, HK.out.2.2.2.2.2.2.2.1⟩
        · have hF : (treeOf ns i).findSome? H = (treeOf ns q).findSome? H := by rw [HK.out.1, HK.out.2.1, HK.out.2.2.1, hN]; simp
          obtain ⟨t, u, hv⟩ := valOf_iface (adr := adr) (sl := sl) hq
          have HF := Lib.hid (And.intro hF hv)
          have HU := Lib.hid (unwrap_alike (adr j) (.iface t u) wo (by rw [← hv, ← kidVal_one hN]; exact cell_keep HK.out.2.2.2.1 (cell_of_heap hmem 1 rfl)))
          clear hF hN hmem hv
          go_wp2_with (go_at_call 79; refine HU.out.mono ?_; rintro e w6 ⟨rfl, rfl⟩)
          go_roundg (ns.length - q)
          case measure => omega
          case rel => exact ⟨q, by omega, hq, Nat.le_refl _, HF.out.2.symm, HF.out.1, hgr, HK.out.2.2.2.2.2.2.2.1, rfl, rfl⟩
      case acts =>
        simp only [errBy] at ⊢
        simp only [blkBy] at hmem
        have h1 := fun v xT w => toW_other 91 v xT (by decide) w
        have h0 := asM_acts
        have h2 := one_acts
        have h3 := methU_acts
        have h4 := methA_acts
        have h5 := nilA_acts
        clear hn hk
        have HA := Lib.hid (fun v W => actsAs_other (adr j) 97 v (by decide) W)
        have HP := HK.out.2.2.2.2.2.2.2.1
        obtain ⟨pp, hpp⟩ := HP
        have hcP := cell_of_heap hpp 0 rfl
        have hfP := frozen_of_heap hpp 0
        have hltP := lt_of_heap hpp
        clear hpp
        have HW0 := Lib.hid (fun (w5 : World) (hg : wo.grownBy w5 (some P)) => (show Below w0.heap.size w0 w5 from HK.out.2.2.2.1.grown hg HK.out.2.2.2.1.size (fun a ha => by injection ha with ha; omega)))
        rcases kidsOf_single HK.out.2.2.2.2.2.1 HK.out.2.2.2.2.2.2.1 (by simp) with hN | ⟨q, hN, hq, hjq⟩
        · have hF : (treeOf ns i).findSome? H = none := by rw [HK.out.1, HK.out.2.1, HK.out.2.2.1, hN]; simp
          have HF := Lib.hid hF
          have HU := Lib.hid (fun (W : World) (hW : Below w0.heap.size w0 W) => unwrap_acts (adr j) .nilIface W (by rw [← kidVal_nil hN]; exact cell_keep hW (cell_of_heap hmem 1 rfl)))
          clear hF hN hmem
          cases pp with
          | none =>
            go_wp2_with fail
            go_region_with (go_at_call 80; refine (HA.out _ _).mono ?_; rintro e w5 ⟨rfl, hw5⟩; have hA5 : wo.grownBy w5 (some P) ∧ AsPtrW P w5 := (by rw [← hw5]; exact HK.out.2.2.2.2.2.2.2.1.set _ _); clear hw5; have A5 := Lib.hid hA5; clear hA5)
            all_goals go_wp2_with (go_at_call 82; refine (HU.out _ (HW0.out _ A5.out.1)).mono ?_; rintro e w6 ⟨rfl, rfl⟩)
            all_goals refine bodyPost_ret (v := .tuple #[.pointer none, .bool false]) (by simp [results, Try.results47, go_sem]) rfl ?_
            all_goals exact ⟨by rw [HF.out]; rfl, gB_trans hgr A5.out.1, A5.out.2⟩
          | some ap =>
            go_wp2_with fail
            go_region_with (go_at_call 80; refine (HA.out _ _).mono ?_; rintro e w5 ⟨rfl, hw5⟩; have hA5 : wo.grownBy w5 (some P) ∧ AsPtrW P w5 := (by rw [← hw5]; exact ⟨gB_of P (Below.refl _ _).drew, HK.out.2.2.2.2.2.2.2.1.keep (Below.refl _ _).drew⟩); clear hw5; have A5 := Lib.hid hA5; clear hA5)
            all_goals go_wp2_with (go_at_call 82; refine (HU.out _ (HW0.out _ A5.out.1)).mono ?_; rintro e w6 ⟨rfl, rfl⟩)
            all_goals refine bodyPost_ret (v := .tuple #[.pointer none, .bool false]) (by simp [results, Try.results47, go_sem]) rfl ?_
            all_goals exact ⟨by rw [HF.out]; rfl, gB_trans hgr A5.out.1, A5.out.2⟩
        · have hF : (treeOf ns i).findSome? H = (treeOf ns q).findSome? H := by rw [HK.out.1, HK.out.2.1, HK.out.2.2.1, hN]; simp
          obtain ⟨t, u, hv⟩ := valOf_iface (adr := adr) (sl := sl) hq
          have HF := Lib.hid (And.intro hF hv)
          have HU := Lib.hid (fun (W : World) (hW : Below w0.heap.size w0 W) => unwrap_acts (adr j) (.iface t u) W (by rw [← hv, ← kidVal_one hN]; exact cell_keep hW (cell_of_heap hmem 1 rfl)))
          clear hF hN hmem hv
          cases pp with
          | none =>
            go_wp2_with fail
            go_region_with (go_at_call 80; refine (HA.out _ _).mono ?_; rintro e w5 ⟨rfl, hw5⟩; have hA5 : wo.grownBy w5 (some P) ∧ AsPtrW P w5 := (by rw [← hw5]; exact HK.out.2.2.2.2.2.2.2.1.set _ _); clear hw5; have A5 := Lib.hid hA5; clear hA5)
            all_goals go_wp2_with (go_at_call 82; refine (HU.out _ (HW0.out _ A5.out.1)).mono ?_; rintro e w6 ⟨rfl, rfl⟩)
            all_goals go_roundg (ns.length - q)
            all_goals first | omega | exact ⟨q, by omega, hq, Nat.le_refl _, HF.out.2.symm, HF.out.1, gB_trans hgr A5.out.1, A5.out.2, rfl, rfl⟩
          | some ap =>
            go_wp2_with fail
            go_region_with (go_at_call 80; refine (HA.out _ _).mono ?_; rintro e w5 ⟨rfl, hw5⟩; have hA5 : wo.grownBy w5 (some P) ∧ AsPtrW P w5 := (by rw [← hw5]; exact ⟨gB_of P (Below.refl _ _).drew, HK.out.2.2.2.2.2.2.2.1.keep (Below.refl _ _).drew⟩); clear hw5; have A5 := Lib.hid hA5; clear hA5)
            all_goals go_wp2_with (go_at_call 82; refine (HU.out _ (HW0.out _ A5.out.1)).mono ?_; rintro e w6 ⟨rfl, rfl⟩)
            all_goals go_roundg (ns.length - q)
            all_goals first | omega | exact ⟨q, by omega, hq, Nat.le_refl _, HF.out.2.symm, HF.out.1, gB_trans hgr A5.out.1, A5.out.2, rfl, rfl⟩
end Go.Proofs.Ytnekgmkonhclbaa
