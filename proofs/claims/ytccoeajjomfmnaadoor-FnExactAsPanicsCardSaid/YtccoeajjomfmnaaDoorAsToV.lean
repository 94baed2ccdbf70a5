/-
  The contract of errors.as over the errors of nodes, with a target of one type.
  Conditions: none.
-/
import Derived.Test.YtccoeajjomfmnaaDoorRefl
import Derived.Test.YtccoeajjomfmnaaDoorKImplAs
import Derived.Deep.LoopGhost
import Derived.Deep.RegionWith
import Derived.Outline
namespace Go.Proofs.YtccoeajjomfmnaaDoor
open Go.RowKit Go.Lib Go.Extern.Stop Go.Stop Go.Extern

/-- What errors.as leaves: where nothing is found nothing is written; else the target holds what was found. -/
def AsToPost (T : Nat) (t : TypeId) (o : Option Value) (w w' : World) : Prop := (o = none → Below w.heap.size w w') ∧ ∀ y, o = some y → w.grownBy w' (some T) ∧ w'.heap[T]? = some (.cells #[y] t (0, 0))
theorem AsToPost.none {T : Nat} {t : TypeId} {w w' : World} (h : Below w.heap.size w w') : AsToPost T t none w w' := ⟨fun _ => h, fun y hy => by cases hy⟩
theorem AsToPost.some {T : Nat} {t : TypeId} {y : Value} {w w' : World} (h : w.grownBy w' (some T)) (h2 : w'.heap[T]? = some (.cells #[y] t (0, 0))) : AsToPost T t (some y) w w' := ⟨fun hy => by (cases hy), fun z hz => by injection hz with hz; subst hz; exact ⟨h, h2⟩⟩
theorem AsToPost.after {T : Nat} {t : TypeId} {o : Option Value} {w w1 w2 : World} (h : Below w.heap.size w w1) (h2 : AsToPost T t o w1 w2) : AsToPost T t o w w2 :=
  ⟨fun e => below_after h (h2.1 e), fun y hy => ⟨gB_before h (h2.2 y hy).1, (h2.2 y hy).2⟩⟩
/-- The target's block is written. -/
theorem put_target {w w1 : World} {T : Nat} {t : TypeId} {x y : Value} (h : Below w.heap.size w w1) (hT : w.heap[T]? = some (.cells #[x] t (0, 0))) : w.grownBy (w1.setCell ⟨T, 0, none⟩ y) (some T) ∧ (w1.setCell ⟨T, 0, none⟩ y).heap[T]? = some (.cells #[y] t (0, 0)) :=
  ⟨⟨h.os, h.tape, h.output, Nat.le_trans h.size (by simp [World.setCell]), fun b hb hne => (Below.heap_setCell _ _ _ _ (fun e => hne (by rw [show b = T from e]))).trans (h.block b hb)⟩, one_setCell (heap_keep h hT)⟩

/-- The cell that a node gives. -/
def cellV (ns : List Nd) (j : Nat) : Option Value := (valKey ns j).map (Value.int .i64)
theorem cellV_of {ns : List Nd} {j : Nat} {nd : Nd} {k : K8} (hn : ns[j]? = some nd) (hk : kindOf nd.kind = some k) : cellV ns j = if k = .value ∨ k = .acts then some (Value.int .i64 nd.key) else none := by
  unfold cellV valKey
  rw [hn]
  simp only [word_of_kind hk]
  cases k <;> rfl

/-- The relation of the loop of errors.as. -/
def AsToVRel (w1 : World) (ns : List Nd) (adr : Nat → Nat) (sl : Nat → Value) (H : Nat → Option Value) (i gk : Nat) (v0 : Value) (wr : World) : Prop :=
  ∃ j, i ≤ j ∧ isThere ns j = true ∧ ns.length - j ≤ gk ∧ v0 = valOf ns adr sl j ∧ (treeOf ns i).findSome? H = (treeOf ns j).findSome? H ∧ Below w1.heap.size w1 wr

set_option maxRecDepth 100000 in
set_option maxHeartbeats 8000000 in
theorem asToV_any {w0 : World} {ns : List Nd} {adr : Nat → Nat} {sl : Nat → Value} {base : Nat} (T S : Nat) (x : Int) (L : Lies w0 ns adr sl base 0) :
    ∀ (m i : Nat) (w : World), ns.length - i ≤ m → isThere ns i = true → Below w0.heap.size w0 w → w.heap[T]? = some (.cells #[.int .i64 x] 50 (0, 0)) → w.cell? ⟨S, 0, none⟩ = some (.pointer (some ⟨T, 0, none⟩)) →
    Calls Tryd.prog 43 #[valOf ns adr sl i, .iface 60 (.pointer (some ⟨T, 0, none⟩)), .agg #[.pointer (some ⟨1, 60, none⟩), .pointer (some ⟨S, 0, none⟩), .int .u64 150], .iface 126 (.agg #[.pointer (some ⟨1, 50, none⟩)])] w fun e w' => e = .returned (.bool ((treeOf ns i).findSome? (cellV ns)).isSome) ∧ AsToPost T 50 ((treeOf ns i).findSome? (cellV ns)) w w' := by
  have xT := @run_callFunc_extern Tryd.prog 48 _ ReflectliteType.typeOf Tryd.func48 (by kernel_rfl) (by kernel_rfl) (by kernel_rfl) (by kernel_rfl)
  have xA := @run_callFunc_extern Tryd.prog 89 _ (ReflectliteType.relation "AssignableTo" ReflectliteType.assignableTo) Tryd.func89 (by kernel_rfl) (by kernel_rfl) (by kernel_rfl) (by kernel_rfl)
  have xE := @run_callFunc_extern Tryd.prog 49 _ (ReflectliteValue.method (ReflectliteValue.valueError "reflectlite.Value.Elem" 0) ReflectliteValue.elem) Tryd.func49 (by kernel_rfl) (by kernel_rfl) (by kernel_rfl) (by kernel_rfl)
  have xS := @run_callFunc_extern Tryd.prog 50 _ ReflectliteValue.set Tryd.func50 (by kernel_rfl) (by kernel_rfl) (by kernel_rfl) (by kernel_rfl)
  have xV := @run_callFunc_extern Tryd.prog 40 _ (fun args => ReflectliteValue.unpack (args.getD 0 (.tuple #[]))) Tryd.func40 (by kernel_rfl) (by kernel_rfl) (by kernel_rfl) (by kernel_rfl)
  have mA := methAssignableTo
  intro m
  induction m with
  | zero => intro i w hm hi; have := isThere_lt hi; omega
  | succ m ih =>
    intro i w hm hi hw hTT hSS
    have IH := Lib.hid ih
    have HL := Lib.hid L
    clear ih L
    have hR0 : AsToVRel (w.alloc (.cells #[.pointer (some ⟨1, 60, none⟩), .pointer (some ⟨S, 0, none⟩), .int .u64 150] 97)) ns adr sl (cellV ns) i (ns.length - i) (valOf ns adr sl i) (w.alloc (.cells #[.pointer (some ⟨1, 60, none⟩), .pointer (some ⟨S, 0, none⟩), .int .u64 150] 97)) := ⟨i, Nat.le_refl _, hi, Nat.le_refl _, rfl, rfl, Below.refl _ _⟩
    generalize valOf ns adr sl i = v0 at *
    generalize hH : cellV ns = H at *
    have HH := Lib.hid hH
    clear hH
    have R0 := Lib.hid hR0
    have HP := Lib.hid (And.intro hTT hSS)
    clear hR0 hTT hSS
    go_enter Tryd.func43, Tryd.ntmps43
    go_wp2_with fail
    go_loopg [0] (ns.length - i) (fun gk v0 wr => AsToVRel (w.alloc (.cells #[.pointer (some ⟨1, 60, none⟩), .pointer (some ⟨S, 0, none⟩), .int .u64 150] 97)) ns adr sl H i gk v0 wr)
    case atStart => exact R0.out
    case round =>
      obtain ⟨j, hij, hj, hgk, rfl, hany, hbel⟩ := hrel
      clear R0
      obtain ⟨wo, rfl⟩ : ∃ wo : World, wo = wr := ⟨_, rfl⟩
      obtain ⟨nd, k, hn, hk⟩ := isThere_kind hj
      have hbw : Below w.heap.size w wo := below_box hbel
      have hw1 := hw.trans (hbw.mono hw.size)
      have hL1 := HL.out.keep hw1
      have hmem := hL1.mem j nd k (Nat.zero_le _) hn hj hk
      have hjl := isThere_lt hj
      rw [valOf_there hj hn hk]
      have hat := some_tree ns H j hjl
      have hHj : H j = if k = .value ∨ k = .acts then some (Value.int .i64 nd.key) else none := by
        rw [← HH.out]; exact cellV_of hn hk
      have hrow := hL1.row j nd k (Nat.zero_le _) hn hj hk
      have hT1 := heap_keep hbw HP.out.1
      have hS1 := cell_keep hbw HP.out.2
      obtain ⟨b0, b1, b2⟩ := box3 (heap_keep hbel (heap_top w (.cells #[.pointer (some ⟨1, 60, none⟩), .pointer (some ⟨S, 0, none⟩), .int .u64 150] 97) w.heap.size rfl))
      have HK := Lib.hid (And.intro hany (And.intro hat (And.intro hHj (And.intro hw1 (And.intro hrow (And.intro hn (And.intro hk (And.intro hT1 (And.intro hS1 hbw)))))))))
      have hso := hbel.size
      simp only [World.size_alloc] at hso
      clear hany hat hHj hrow hL1 hT1 hS1
      obtain ⟨kd, key, text, kids⟩ := nd
      cases k
      case text =>
        simp only [errBy] at ⊢
        have tO := typeOf_text
        have aA := assignV_text
        have h0 := asM_text
        have h2 := one_text
        have h3 := many_text
        have hF : (treeOf ns i).findSome? H = none := by rw [HK.out.1, HK.out.2.1, HK.out.2.2.1, kidsOf_none HK.out.2.2.2.2.2.1 HK.out.2.2.2.2.2.2.1 (by simp)]; simp
        have HF := Lib.hid hF
        clear hF hmem hn hk
        go_wp2_with fail
        go_ret
        exact ⟨by rw [HF.out]; rfl, by rw [HF.out]; exact AsToPost.none HK.out.2.2.2.2.2.2.2.2.2⟩
      case value =>
        simp only [errBy] at ⊢
        have tO := typeOf_value
        have aA := assignV_value
        have hF : (treeOf ns i).findSome? H = some (Value.int .i64 key) := by rw [HK.out.1, HK.out.2.1, HK.out.2.2.1]; simp
        have HF := Lib.hid hF
        have vE := valueOfEV
        have eV := elemVV ⟨S, 0, none⟩ ⟨T, 0, none⟩ wo HK.out.2.2.2.2.2.2.2.2.1
        have sV := setV ⟨T, 0, none⟩ ⟨wo.heap.size, 0, none⟩ key _ (wo.alloc (.cells #[.int .i64 key] 50)) (cell_of_heap (heap_top _ _ _ rfl) 0 rfl) (cell_keep (below_alloc _ _) (cell_of_heap HK.out.2.2.2.2.2.2.2.1 0 rfl)) (((below_alloc wo _).frozen (lt_of_heap HK.out.2.2.2.2.2.2.2.1)).trans (frozen_of_heap HK.out.2.2.2.2.2.2.2.1 0))
        clear hF hmem hn hk
        go_wp2_with fail
        go_ret
        have hput := put_target (y := .int .i64 key) (below_after HK.out.2.2.2.2.2.2.2.2.2 (below_alloc wo (.cells #[.int .i64 key] 50))) HP.out.1
        exact ⟨by rw [HF.out]; rfl, by rw [HF.out]; exact AsToPost.some hput.1 hput.2⟩
      case list =>
        simp only [errBy] at ⊢
        have tO := typeOf_list
        have aA := assignV_list
        have h0 := asM_list
        have h2 := one_list
        have h3 := many_list
        have hF : (treeOf ns i).findSome? H = none := by rw [HK.out.1, HK.out.2.1, HK.out.2.2.1, kidsOf_none HK.out.2.2.2.2.2.1 HK.out.2.2.2.2.2.2.1 (by simp)]; simp
        have HF := Lib.hid hF
        clear hF hmem hn hk
        go_wp2_with fail
        go_ret
        exact ⟨by rw [HF.out]; rfl, by rw [HF.out]; exact AsToPost.none HK.out.2.2.2.2.2.2.2.2.2⟩
      case wrap =>
        simp only [errBy] at ⊢
        simp only [blkBy] at hmem
        have tO := typeOf_wrap
        have aA := assignV_wrap
        have h0 := asM_wrap
        have h2 := one_wrap
        have h3 := methU_wrap
        clear hn hk
        rcases kidsOf_single HK.out.2.2.2.2.2.1 HK.out.2.2.2.2.2.2.1 (by simp) with hN | ⟨q, hN, hq, hjq⟩
        · have hF : (treeOf ns i).findSome? H = none := by rw [HK.out.1, HK.out.2.1, HK.out.2.2.1, hN]; simp
          have HF := Lib.hid hF
          have HU := Lib.hid (unwrap_wrap (adr j) .nilIface wo (by rw [← kidVal_nil hN]; exact cell_of_heap hmem 1 rfl))
          clear hF hN hmem
          go_wp2_with (first | (go_at_call 73; refine HU.out.mono ?_; rintro e w6 ⟨rfl, rfl⟩))
          go_ret
          exact ⟨by rw [HF.out]; rfl, by rw [HF.out]; exact AsToPost.none HK.out.2.2.2.2.2.2.2.2.2⟩
        · have hF : (treeOf ns i).findSome? H = (treeOf ns q).findSome? H := by rw [HK.out.1, HK.out.2.1, HK.out.2.2.1, hN]; simp
          obtain ⟨t, u, hv⟩ := valOf_iface (adr := adr) (sl := sl) hq
          have HF := Lib.hid (And.intro hF hv)
          have HU := Lib.hid (unwrap_wrap (adr j) (.iface t u) wo (by rw [← hv, ← kidVal_one hN]; exact cell_of_heap hmem 1 rfl))
          clear hF hN hmem hv
          go_wp2_with (first | (go_at_call 73; refine HU.out.mono ?_; rintro e w6 ⟨rfl, rfl⟩))
          go_roundg (ns.length - q)
          case measure => omega
          case rel => exact ⟨q, by omega, hq, Nat.le_refl _, HF.out.2.symm, HF.out.1, hbel⟩
      case many =>
        simp only [errBy] at ⊢
        simp only [blkBy] at hmem
        have tO := typeOf_many
        have aA := assignV_many
        have h0 := asM_many
        have h2 := one_many
        have h3 := methU_many
        have h4 := many_many
        clear hn hk
        have hF : (treeOf ns i).findSome? H = (kidsOf ns j).findSome? fun q => (treeOf ns q).findSome? H := by rw [HK.out.1, HK.out.2.1, HK.out.2.2.1]; simp
        have hrow := Vals.of_own (HK.out.2.2.2.2.1 (by simp))
        obtain ⟨SA, sc, hsl, hscl, hscm⟩ := hrow.form
        rw [List.length_map] at hsl hscl
        rw [hsl] at hmem hrow
        simp only [maxLen] at hscm
        have HU := Lib.hid (unwrap_many (adr j) _ wo (cell_of_heap hmem 1 rfl))
        have HF := Lib.hid (And.intro hF hrow)
        have HB0 := Lib.hid (heap_keep hbel (heap_top w (.cells #[.pointer (some ⟨1, 60, none⟩), .pointer (some ⟨S, 0, none⟩), .int .u64 150] 97) w.heap.size rfl))
        clear hF hmem hrow hsl
        go_wp2_with (go_at_call 76; refine HU.out.mono ?_; rintro e w6 ⟨rfl, rfl⟩)
        go_loopw [50] (fun vi wr => ∃ c : Nat, c ≤ (kidsOf ns j).length ∧ vi = .int .i64 c ∧ ((kidsOf ns j).take c).findSome? (fun q => (treeOf ns q).findSome? H) = none ∧ Below wo.heap.size wo wr) (fun vi _ => (kidsOf ns j).length - (intOf vi).toNat)
        case atStart => exact ⟨0, Nat.zero_le _, rfl, by simp, Below.refl _ _⟩
        case round =>
          obtain ⟨c, hc, rfl, hno, hb2⟩ := hrel
          have HNO := Lib.hid hno
          have hs2 := hb2.size
          clear hno
          obtain ⟨d0, d1, d2⟩ := box3 (heap_keep hb2 HB0.out)
          by_cases hlt : c < (kidsOf ns j).length
          · obtain ⟨b, off, rfl, c0⟩ := (HF.out.2.keep hb2).at (k := c) (x := valOf ns adr sl (kidsOf ns j)[c]) (by simp [hlt])
            have hq := kidsOf_mem (List.getElem_mem hlt)
            have HS := Lib.hid (show ((kidsOf ns j).take (c + 1)).findSome? (fun q => (treeOf ns q).findSome? H) = (treeOf ns (kidsOf ns j)[c]).findSome? H by
              rw [List.take_succ_eq_append_getElem hlt, findSome_append, HNO.out]; simp)
            have HS2 := Lib.hid (show ∀ y, (treeOf ns (kidsOf ns j)[c]).findSome? H = some y → (kidsOf ns j).findSome? (fun q => (treeOf ns q).findSome? H) = some y from fun y h => by
              rw [← List.take_append_drop c (kidsOf ns j), findSome_append, HNO.out, List.drop_eq_getElem_cons hlt, List.findSome?_cons, h]; rfl)
            generalize (kidsOf ns j)[c] = q at *
            have hcall := IH.out q wr (by omega) hq.2.2 (HK.out.2.2.2.1.trans (hb2.mono HK.out.2.2.2.1.size)) (heap_keep hb2 HK.out.2.2.2.2.2.2.2.1) (cell_keep hb2 HK.out.2.2.2.2.2.2.2.2.1)
            obtain ⟨t, u, hv⟩ := valOf_iface (adr := adr) (sl := sl) hq.2.2
            rw [hv] at hcall c0
            clear hv
            cases hA : (treeOf ns q).findSome? H with
            | some y =>
              have hF2 : (treeOf ns i).findSome? H = some y := by rw [HF.out.1]; exact HS2.out y hA
              rw [hA] at hcall
              simp only [Option.isSome_some] at hcall
              have HC := Lib.hid hcall
              have HF2 := Lib.hid hF2
              clear hcall hF2 hA
              go_wp2_with (go_at_call 43; refine HC.out.mono ?_; rintro e w7 ⟨rfl, hb7⟩)
              go_ret
              exact ⟨by rw [HF2.out]; rfl, by rw [HF2.out]; exact AsToPost.after (HK.out.2.2.2.2.2.2.2.2.2.trans (hb2.mono HK.out.2.2.2.2.2.2.2.2.2.size)) hb7⟩
            | none =>
              rw [hA] at hcall
              simp only [Option.isSome_none] at hcall
              have HC := Lib.hid hcall
              have HA := Lib.hid hA
              clear hcall hA
              go_wp2_with (go_at_call 43; refine HC.out.mono ?_; rintro e w7 ⟨rfl, hb7⟩; replace hb7 := hb7.1 rfl)
              go_roundw
              case rel => exact ⟨c + 1, hlt, by go_num, by rw [HS.out]; exact HA.out, hb2.trans (hb7.mono hb2.size)⟩
              case measure => simp [intOf]; omega
          · obtain rfl : c = (kidsOf ns j).length := by omega
            have hno := HNO.out
            rw [List.take_length] at hno
            have HF2 := Lib.hid (show (treeOf ns i).findSome? H = none by rw [HF.out.1]; exact hno)
            clear hno
            go_wp2_with fail
            go_ret
            exact ⟨by rw [HF2.out]; rfl, by rw [HF2.out]; exact AsToPost.none (HK.out.2.2.2.2.2.2.2.2.2.trans (hb2.mono HK.out.2.2.2.2.2.2.2.2.2.size))⟩
      case join =>
        simp only [errBy] at ⊢
        simp only [blkBy] at hmem
        have tO := typeOf_join
        have aA := assignV_join
        have h0 := asM_join
        have h2 := one_join
        have h3 := methU_join
        have h4 := many_join
        clear hn hk
        have hF : (treeOf ns i).findSome? H = (kidsOf ns j).findSome? fun q => (treeOf ns q).findSome? H := by rw [HK.out.1, HK.out.2.1, HK.out.2.2.1]; simp
        have hrow := Vals.of_own (HK.out.2.2.2.2.1 (by simp))
        obtain ⟨SA, sc, hsl, hscl, hscm⟩ := hrow.form
        rw [List.length_map] at hsl hscl
        rw [hsl] at hmem hrow
        simp only [maxLen] at hscm
        have HU := Lib.hid (unwrap_join (adr j) _ wo (cell_of_heap hmem 0 rfl))
        have HF := Lib.hid (And.intro hF hrow)
        have HB0 := Lib.hid (heap_keep hbel (heap_top w (.cells #[.pointer (some ⟨1, 60, none⟩), .pointer (some ⟨S, 0, none⟩), .int .u64 150] 97) w.heap.size rfl))
        clear hF hmem hrow hsl
        go_wp2_with (go_at_call 87; refine HU.out.mono ?_; rintro e w6 ⟨rfl, rfl⟩)
        go_loopw [50] (fun vi wr => ∃ c : Nat, c ≤ (kidsOf ns j).length ∧ vi = .int .i64 c ∧ ((kidsOf ns j).take c).findSome? (fun q => (treeOf ns q).findSome? H) = none ∧ Below wo.heap.size wo wr) (fun vi _ => (kidsOf ns j).length - (intOf vi).toNat)
        case atStart => exact ⟨0, Nat.zero_le _, rfl, by simp, Below.refl _ _⟩
        case round =>
          obtain ⟨c, hc, rfl, hno, hb2⟩ := hrel
          have HNO := Lib.hid hno
          have hs2 := hb2.size
          clear hno
          obtain ⟨d0, d1, d2⟩ := box3 (heap_keep hb2 HB0.out)
          by_cases hlt : c < (kidsOf ns j).length
          · obtain ⟨b, off, rfl, c0⟩ := (HF.out.2.keep hb2).at (k := c) (x := valOf ns adr sl (kidsOf ns j)[c]) (by simp [hlt])
            have hq := kidsOf_mem (List.getElem_mem hlt)
            have HS := Lib.hid (show ((kidsOf ns j).take (c + 1)).findSome? (fun q => (treeOf ns q).findSome? H) = (treeOf ns (kidsOf ns j)[c]).findSome? H by
              rw [List.take_succ_eq_append_getElem hlt, findSome_append, HNO.out]; simp)
            have HS2 := Lib.hid (show ∀ y, (treeOf ns (kidsOf ns j)[c]).findSome? H = some y → (kidsOf ns j).findSome? (fun q => (treeOf ns q).findSome? H) = some y from fun y h => by
              rw [← List.take_append_drop c (kidsOf ns j), findSome_append, HNO.out, List.drop_eq_getElem_cons hlt, List.findSome?_cons, h]; rfl)
            generalize (kidsOf ns j)[c] = q at *
            have hcall := IH.out q wr (by omega) hq.2.2 (HK.out.2.2.2.1.trans (hb2.mono HK.out.2.2.2.1.size)) (heap_keep hb2 HK.out.2.2.2.2.2.2.2.1) (cell_keep hb2 HK.out.2.2.2.2.2.2.2.2.1)
            obtain ⟨t, u, hv⟩ := valOf_iface (adr := adr) (sl := sl) hq.2.2
            rw [hv] at hcall c0
            clear hv
            cases hA : (treeOf ns q).findSome? H with
            | some y =>
              have hF2 : (treeOf ns i).findSome? H = some y := by rw [HF.out.1]; exact HS2.out y hA
              rw [hA] at hcall
              simp only [Option.isSome_some] at hcall
              have HC := Lib.hid hcall
              have HF2 := Lib.hid hF2
              clear hcall hF2 hA
              go_wp2_with (go_at_call 43; refine HC.out.mono ?_; rintro e w7 ⟨rfl, hb7⟩)
              go_ret
              exact ⟨by rw [HF2.out]; rfl, by rw [HF2.out]; exact AsToPost.after (HK.out.2.2.2.2.2.2.2.2.2.trans (hb2.mono HK.out.2.2.2.2.2.2.2.2.2.size)) hb7⟩
            | none =>
              rw [hA] at hcall
              simp only [Option.isSome_none] at hcall
              have HC := Lib.hid hcall
              have HA := Lib.hid hA
              clear hcall hA
              go_wp2_with (go_at_call 43; refine HC.out.mono ?_; rintro e w7 ⟨rfl, hb7⟩; replace hb7 := hb7.1 rfl)
              go_roundw
              case rel => exact ⟨c + 1, hlt, by go_num, by rw [HS.out]; exact HA.out, hb2.trans (hb7.mono hb2.size)⟩
              case measure => simp [intOf]; omega
          · obtain rfl : c = (kidsOf ns j).length := by omega
            have hno := HNO.out
            rw [List.take_length] at hno
            have HF2 := Lib.hid (show (treeOf ns i).findSome? H = none by rw [HF.out.1]; exact hno)
            clear hno
            go_wp2_with fail
            go_ret
            exact ⟨by rw [HF2.out]; rfl, by rw [HF2.out]; exact AsToPost.none (HK.out.2.2.2.2.2.2.2.2.2.trans (hb2.mono HK.out.2.2.2.2.2.2.2.2.2.size))⟩
      case alike =>
        simp only [errBy] at ⊢
        simp only [blkBy] at hmem
        have tO := typeOf_alike
        have aA := assignV_alike
        have h0 := asM_alike
        have h2 := one_alike
        have h3 := methU_alike
        clear hn hk
        rcases kidsOf_single HK.out.2.2.2.2.2.1 HK.out.2.2.2.2.2.2.1 (by simp) with hN | ⟨q, hN, hq, hjq⟩
        · have hF : (treeOf ns i).findSome? H = none := by rw [HK.out.1, HK.out.2.1, HK.out.2.2.1, hN]; simp
          have HF := Lib.hid hF
          have HU := Lib.hid (unwrap_alike (adr j) .nilIface wo (by rw [← kidVal_nil hN]; exact cell_of_heap hmem 1 rfl))
          clear hF hN hmem
          go_wp2_with (first | (go_at_call 78; refine HU.out.mono ?_; rintro e w6 ⟨rfl, rfl⟩))
          go_ret
          exact ⟨by rw [HF.out]; rfl, by rw [HF.out]; exact AsToPost.none HK.out.2.2.2.2.2.2.2.2.2⟩
        · have hF : (treeOf ns i).findSome? H = (treeOf ns q).findSome? H := by rw [HK.out.1, HK.out.2.1, HK.out.2.2.1, hN]; simp
          obtain ⟨t, u, hv⟩ := valOf_iface (adr := adr) (sl := sl) hq
          have HF := Lib.hid (And.intro hF hv)
          have HU := Lib.hid (unwrap_alike (adr j) (.iface t u) wo (by rw [← hv, ← kidVal_one hN]; exact cell_of_heap hmem 1 rfl))
          clear hF hN hmem hv
          go_wp2_with (first | (go_at_call 78; refine HU.out.mono ?_; rintro e w6 ⟨rfl, rfl⟩))
          go_roundg (ns.length - q)
          case measure => omega
          case rel => exact ⟨q, by omega, hq, Nat.le_refl _, HF.out.2.symm, HF.out.1, hbel⟩
      case acts =>
        simp only [errBy] at ⊢
        simp only [blkBy] at hmem
        have tO := typeOf_acts
        have aA := assignV_acts
        have h0 := asM_acts
        have hF : (treeOf ns i).findSome? H = some (Value.int .i64 key) := by rw [HK.out.1, HK.out.2.1, HK.out.2.2.1]; simp
        have HF := Lib.hid hF
        have h4 := methA_acts
        have h5 := nilA_acts
        have HA := Lib.hid (actsAs_value (adr j) T key x wo (cell_of_heap hmem 0 rfl) (cell_of_heap HK.out.2.2.2.2.2.2.2.1 0 rfl) (frozen_of_heap HK.out.2.2.2.2.2.2.2.1 0))
        clear hF hmem hn hk
        go_wp2_with (go_at_call 79; refine HA.out.mono ?_; rintro e w5 ⟨rfl, rfl⟩)
        go_ret
        have hput := put_target (y := .int .i64 key) HK.out.2.2.2.2.2.2.2.2.2 HP.out.1
        exact ⟨by rw [HF.out]; rfl, by rw [HF.out]; exact AsToPost.some hput.1 hput.2⟩
end Go.Proofs.YtccoeajjomfmnaaDoor
