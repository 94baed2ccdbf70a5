/-
  The contract of errors.as over the errors of nodes, with a target of one type.
  Conditions: none.
-/
import Derived.Test.YtccoeajjomfmnaaDoorRefl
import Derived.Test.YtccoeajjomfmnaaDoorAsToV
import Derived.Deep.LoopGhost
import Derived.Deep.RegionWith
import Derived.Outline
namespace Go.Proofs.YtccoeajjomfmnaaDoor
open Go.RowKit Go.Lib Go.Extern.Stop Go.Stop Go.Extern

/-- The relation of the loop of errors.as. -/
def AsToWRel (w1 : World) (ns : List Nd) (adr : Nat → Nat) (sl : Nat → Value) (H : Nat → Option Value) (i gk : Nat) (v0 : Value) (wr : World) : Prop :=
  ∃ j, i ≤ j ∧ isThere ns j = true ∧ ns.length - j ≤ gk ∧ v0 = valOf ns adr sl j ∧ (treeOf ns i).findSome? H = (treeOf ns j).findSome? H ∧ Below w1.heap.size w1 wr

set_option maxRecDepth 100000 in
set_option maxHeartbeats 8000000 in
theorem asToW_any {w0 : World} {ns : List Nd} {adr : Nat → Nat} {sl : Nat → Value} {base : Nat} (T S : Nat) (L : Lies w0 ns adr sl base 0) :
    ∀ (m i : Nat) (w : World), ns.length - i ≤ m → isThere ns i = true → Below w0.heap.size w0 w → w.heap[T]? = some (.cells #[.pointer none] 61 (0, 0)) → w.cell? ⟨S, 0, none⟩ = some (.pointer (some ⟨T, 0, none⟩)) →
    Calls Tryd.prog 43 #[valOf ns adr sl i, .iface 65 (.pointer (some ⟨T, 0, none⟩)), .agg #[.pointer (some ⟨1, 65, none⟩), .pointer (some ⟨S, 0, none⟩), .int .u64 150], .iface 126 (.agg #[.pointer (some ⟨1, 61, none⟩)])] w fun e w' => e = .returned (.bool ((treeOf ns i).findSome? (hitW ns adr)).isSome) ∧ AsToPost T 61 ((treeOf ns i).findSome? (hitW ns adr)) w w' := by
  have xT := @run_callFunc_extern Tryd.prog 48 _ ReflectliteType.typeOf Tryd.func48 (by kernel_rfl) (by kernel_rfl) (by kernel_rfl) (by kernel_rfl)
  have xA := @run_callFunc_extern Tryd.prog 89 _ (ReflectliteType.relation "AssignableTo" ReflectliteType.assignableTo) Tryd.func89 (by kernel_rfl) (by kernel_rfl) (by kernel_rfl) (by kernel_rfl)
  have xE := @run_callFunc_extern Tryd.prog 49 _ (ReflectliteValue.method (ReflectliteValue.valueError "reflectlite.Value.Elem" 0) ReflectliteValue.elem) Tryd.func49 (by kernel_rfl) (by kernel_rfl) (by kernel_rfl) (by kernel_rfl)
  have xS := @run_callFunc_extern Tryd.prog 50 _ ReflectliteValue.set Tryd.func50 (by kernel_rfl) (by kernel_rfl) (by kernel_rfl) (by kernel_rfl)
  have xV := @run_callFunc_extern Tryd.prog 40 _ (fun args => ReflectliteValue.unpack (args.getD 0 (.tuple #[]))) Tryd.func40 (by kernel_rfl) (by kernel_rfl) (by kernel_rfl) (by kernel_rfl)
  have mA := methAssignableTo
  intro m
  induction m with
  | zero => intro i w hm hi; have := isThere_lt hi; omega
  | succ m ih =>
    intro i w hm hi hw hTT hSS
    have IH := Lib.hid ih
    have HL := Lib.hid L
    clear ih L
    have hR0 : AsToWRel (w.alloc (.cells #[.pointer (some ⟨1, 65, none⟩), .pointer (some ⟨S, 0, none⟩), .int .u64 150] 97)) ns adr sl (hitW ns adr) i (ns.length - i) (valOf ns adr sl i) (w.alloc (.cells #[.pointer (some ⟨1, 65, none⟩), .pointer (some ⟨S, 0, none⟩), .int .u64 150] 97)) := ⟨i, Nat.le_refl _, hi, Nat.le_refl _, rfl, rfl, Below.refl _ _⟩
    generalize valOf ns adr sl i = v0 at *
    generalize hH : hitW ns adr = H at *
    have HH := Lib.hid hH
    clear hH
    have R0 := Lib.hid hR0
    have HP := Lib.hid (And.intro hTT hSS)
    clear hR0 hTT hSS
    go_enter Tryd.func43, Tryd.ntmps43
    go_wp2_with fail
    go_loopg [0] (ns.length - i) (fun gk v0 wr => AsToWRel (w.alloc (.cells #[.pointer (some ⟨1, 65, none⟩), .pointer (some ⟨S, 0, none⟩), .int .u64 150] 97)) ns adr sl H i gk v0 wr)
    case atStart => exact R0.out
    case round =>
      obtain ⟨j, hij, hj, hgk, rfl, hany, hbel⟩ := hrel
      clear R0
      obtain ⟨wo, rfl⟩ : ∃ wo : World, wo = wr := ⟨_, rfl⟩
      obtain ⟨nd, k, hn, hk⟩ := isThere_kind hj
      have hbw : Below w.heap.size w wo := below_box hbel
      have hw1 := hw.trans (hbw.mono hw.size)
      have hL1 := HL.out.keep hw1
      have hmem := hL1.mem j nd k (Nat.zero_le _) hn hj hk
      have hjl := isThere_lt hj
      rw [valOf_there hj hn hk]
      have hat := some_tree ns H j hjl
      have hHj : H j = if k = .wrap then some (Value.pointer (some ⟨adr j, 0, none⟩)) else none := by
        rw [← HH.out]; exact hitW_of hn hk
      have hrow := hL1.row j nd k (Nat.zero_le _) hn hj hk
      have hT1 := heap_keep hbw HP.out.1
      have hS1 := cell_keep hbw HP.out.2
      obtain ⟨b0, b1, b2⟩ := box3 (heap_keep hbel (heap_top w (.cells #[.pointer (some ⟨1, 65, none⟩), .pointer (some ⟨S, 0, none⟩), .int .u64 150] 97) w.heap.size rfl))
      have HK := Lib.hid (And.intro hany (And.intro hat (And.intro hHj (And.intro hw1 (And.intro hrow (And.intro hn (And.intro hk (And.intro hT1 (And.intro hS1 hbw)))))))))
      have hso := hbel.size
      simp only [World.size_alloc] at hso
      clear hany hat hHj hrow hL1 hT1 hS1
      obtain ⟨kd, key, text, kids⟩ := nd
      cases k
      case text =>
        simp only [errBy] at ⊢
        have tO := typeOf_text
        have aA := assignW_text
        have h0 := asM_text
        have h2 := one_text
        have h3 := many_text
        have hF : (treeOf ns i).findSome? H = none := by rw [HK.out.1, HK.out.2.1, HK.out.2.2.1, kidsOf_none HK.out.2.2.2.2.2.1 HK.out.2.2.2.2.2.2.1 (by simp)]; simp
        have HF := Lib.hid hF
        clear hF hmem hn hk
        go_wp2_with fail
        go_ret
        exact ⟨by rw [HF.out]; rfl, by rw [HF.out]; exact AsToPost.none HK.out.2.2.2.2.2.2.2.2.2⟩
      case value =>
        simp only [errBy] at ⊢
        have tO := typeOf_value
        have aA := assignW_value
        have h0 := asM_value
        have h2 := one_value
        have h3 := many_value
        have hF : (treeOf ns i).findSome? H = none := by rw [HK.out.1, HK.out.2.1, HK.out.2.2.1, kidsOf_none HK.out.2.2.2.2.2.1 HK.out.2.2.2.2.2.2.1 (by simp)]; simp
        have HF := Lib.hid hF
        clear hF hmem hn hk
        go_wp2_with fail
        go_ret
        exact ⟨by rw [HF.out]; rfl, by rw [HF.out]; exact AsToPost.none HK.out.2.2.2.2.2.2.2.2.2⟩
      case list =>
        simp only [errBy] at ⊢
        have tO := typeOf_list
        have aA := assignW_list
        have h0 := asM_list
        have h2 := one_list
        have h3 := many_list
        have hF : (treeOf ns i).findSome? H = none := by rw [HK.out.1, HK.out.2.1, HK.out.2.2.1, kidsOf_none HK.out.2.2.2.2.2.1 HK.out.2.2.2.2.2.2.1 (by simp)]; simp
        have HF := Lib.hid hF
        clear hF hmem hn hk
        go_wp2_with fail
        go_ret
        exact ⟨by rw [HF.out]; rfl, by rw [HF.out]; exact AsToPost.none HK.out.2.2.2.2.2.2.2.2.2⟩
      case wrap =>
        simp only [errBy] at ⊢
        simp only [blkBy] at hmem
        have tO := typeOf_wrap
        have aA := assignW_wrap
        have hF : (treeOf ns i).findSome? H = some (Value.pointer (some ⟨adr j, 0, none⟩)) := by rw [HK.out.1, HK.out.2.1, HK.out.2.2.1]; simp
        have HF := Lib.hid hF
        have vE := valueOfEW
        have eV := elemVW ⟨S, 0, none⟩ ⟨T, 0, none⟩ wo HK.out.2.2.2.2.2.2.2.2.1
        have sV := setW ⟨T, 0, none⟩ ⟨wo.heap.size, 0, none⟩ ⟨adr j, 0, none⟩ _ (wo.alloc (.cells #[.pointer (some ⟨adr j, 0, none⟩)] 61)) (cell_of_heap (heap_top _ _ _ rfl) 0 rfl) (cell_keep (below_alloc _ _) (cell_of_heap HK.out.2.2.2.2.2.2.2.1 0 rfl)) (((below_alloc wo _).frozen (lt_of_heap HK.out.2.2.2.2.2.2.2.1)).trans (frozen_of_heap HK.out.2.2.2.2.2.2.2.1 0))
        clear hF hmem hn hk
        go_wp2_with fail
        go_ret
        have hput := put_target (y := .pointer (some ⟨adr j, 0, none⟩)) (below_after HK.out.2.2.2.2.2.2.2.2.2 (below_alloc wo (.cells #[.pointer (some ⟨adr j, 0, none⟩)] 61))) HP.out.1
        exact ⟨by rw [HF.out]; rfl, by rw [HF.out]; exact AsToPost.some hput.1 hput.2⟩
      case many =>
        simp only [errBy] at ⊢
        simp only [blkBy] at hmem
        have tO := typeOf_many
        have aA := assignW_many
        have h0 := asM_many
        have h2 := one_many
        have h3 := methU_many
        have h4 := many_many
        clear hn hk
        have hF : (treeOf ns i).findSome? H = (kidsOf ns j).findSome? fun q => (treeOf ns q).findSome? H := by rw [HK.out.1, HK.out.2.1, HK.out.2.2.1]; simp
        have hrow := Vals.of_own (HK.out.2.2.2.2.1 (by simp))
        obtain ⟨SA, sc, hsl, hscl, hscm⟩ := hrow.form
        rw [List.length_map] at hsl hscl
        rw [hsl] at hmem hrow
        simp only [maxLen] at hscm
        have HU := Lib.hid (unwrap_many (adr j) _ wo (cell_of_heap hmem 1 rfl))
        have HF := Lib.hid (And.intro hF hrow)
        have HB0 := Lib.hid (heap_keep hbel (heap_top w (.cells #[.pointer (some ⟨1, 65, none⟩), .pointer (some ⟨S, 0, none⟩), .int .u64 150] 97) w.heap.size rfl))
        clear hF hmem hrow hsl
        go_wp2_with (go_at_call 76; refine HU.out.mono ?_; rintro e w6 ⟨rfl, rfl⟩)
        go_loopw [50] (fun vi wr => ∃ c : Nat, c ≤ (kidsOf ns j).length ∧ vi = .int .i64 c ∧ ((kidsOf ns j).take c).findSome? (fun q => (treeOf ns q).findSome? H) = none ∧ Below wo.heap.size wo wr) (fun vi _ => (kidsOf ns j).length - (intOf vi).toNat)
        case atStart => exact ⟨0, Nat.zero_le _, rfl, by simp, Below.refl _ _⟩
        case round =>
          obtain ⟨c, hc, rfl, hno, hb2⟩ := hrel
          have HNO := Lib.hid hno
          have hs2 := hb2.size
          clear hno
          obtain ⟨d0, d1, d2⟩ := box3 (heap_keep hb2 HB0.out)
          by_cases hlt : c < (kidsOf ns j).length
          · obtain ⟨b, off, rfl, c0⟩ := (HF.out.2.keep hb2).at (k := c) (x := valOf ns adr sl (kidsOf ns j)[c]) (by simp [hlt])
            have hq := kidsOf_mem (List.getElem_mem hlt)
            have HS := Lib.hid (show ((kidsOf ns j).take (c + 1)).findSome? (fun q => (treeOf ns q).findSome? H) = (treeOf ns (kidsOf ns j)[c]).findSome? H by
              rw [List.take_succ_eq_append_getElem hlt, findSome_append, HNO.out]; simp)
            have HS2 := Lib.hid (show ∀ y, (treeOf ns (kidsOf ns j)[c]).findSome? H = some y → (kidsOf ns j).findSome? (fun q => (treeOf ns q).findSome? H) = some y from fun y h => by
              rw [← List.take_append_drop c (kidsOf ns j), findSome_append, HNO.out, List.drop_eq_getElem_cons hlt, List.findSome?_cons, h]; rfl)
            generalize (kidsOf ns j)[c] = q at *
            have hcall := IH.out q wr (by omega) hq.2.2 (HK.out.2.2.2.1.trans (hb2.mono HK.out.2.2.2.1.size)) (heap_keep hb2 HK.out.2.2.2.2.2.2.2.1) (cell_keep hb2 HK.out.2.2.2.2.2.2.2.2.1)
            obtain ⟨t, u, hv⟩ := valOf_iface (adr := adr) (sl := sl) hq.2.2
            rw [hv] at hcall c0
            clear hv
            cases hA : (treeOf ns q).findSome? H with
            | some y =>
              have hF2 : (treeOf ns i).findSome? H = some y := by rw [HF.out.1]; exact HS2.out y hA
              rw [hA] at hcall
              simp only [Option.isSome_some] at hcall
              have HC := Lib.hid hcall
              have HF2 := Lib.hid hF2
              clear hcall hF2 hA
              go_wp2_with (go_at_call 43; refine HC.out.mono ?_; rintro e w7 ⟨rfl, hb7⟩)
              go_ret
              exact ⟨by rw [HF2.out]; rfl, by rw [HF2.out]; exact AsToPost.after (HK.out.2.2.2.2.2.2.2.2.2.trans (hb2.mono HK.out.2.2.2.2.2.2.2.2.2.size)) hb7⟩
            | none =>
              rw [hA] at hcall
              simp only [Option.isSome_none] at hcall
              have HC := Lib.hid hcall
              have HA := Lib.hid hA
              clear hcall hA
              go_wp2_with (go_at_call 43; refine HC.out.mono ?_; rintro e w7 ⟨rfl, hb7⟩; replace hb7 := hb7.1 rfl)
              go_roundw
              case rel => exact ⟨c + 1, hlt, by go_num, by rw [HS.out]; exact HA.out, hb2.trans (hb7.mono hb2.size)⟩
              case measure => simp [intOf]; omega
          · obtain rfl : c = (kidsOf ns j).length := by omega
            have hno := HNO.out
            rw [List.take_length] at hno
            have HF2 := Lib.hid (show (treeOf ns i).findSome? H = none by rw [HF.out.1]; exact hno)
            clear hno
            go_wp2_with fail
            go_ret
            exact ⟨by rw [HF2.out]; rfl, by rw [HF2.out]; exact AsToPost.none (HK.out.2.2.2.2.2.2.2.2.2.trans (hb2.mono HK.out.2.2.2.2.2.2.2.2.2.size))⟩
      case join =>
        simp only [errBy] at ⊢
        simp only [blkBy] at hmem
        have tO := typeOf_join
        have aA := assignW_join
        have h0 := asM_join
        have h2 := one_join
        have h3 := methU_join
        have h4 := many_join
        clear hn hk
        have hF : (treeOf ns i).findSome? H = (kidsOf ns j).findSome? fun q => (treeOf ns q).findSome? H := by rw [HK.out.1, HK.out.2.1, HK.out.2.2.1]; simp
        have hrow := Vals.of_own (HK.out.2.2.2.2.1 (by simp))
        obtain ⟨SA, sc, hsl, hscl, hscm⟩ := hrow.form
        rw [List.length_map] at hsl hscl
        rw [hsl] at hmem hrow
        simp only [maxLen] at hscm
        have HU := Lib.hid (unwrap_join (adr j) _ wo (cell_of_heap hmem 0 rfl))
        have HF := Lib.hid (And.intro hF hrow)
        have HB0 := Lib.hid (heap_keep hbel (heap_top w (.cells #[.pointer (some ⟨1, 65, none⟩), .pointer (some ⟨S, 0, none⟩), .int .u64 150] 97) w.heap.size rfl))
        clear hF hmem hrow hsl
        go_wp2_with (go_at_call 87; refine HU.out.mono ?_; rintro e w6 ⟨rfl, rfl⟩)
        go_loopw [50] (fun vi wr => ∃ c : Nat, c ≤ (kidsOf ns j).length ∧ vi = .int .i64 c ∧ ((kidsOf ns j).take c).findSome? (fun q => (treeOf ns q).findSome? H) = none ∧ Below wo.heap.size wo wr) (fun vi _ => (kidsOf ns j).length - (intOf vi).toNat)
        case atStart => exact ⟨0, Nat.zero_le _, rfl, by simp, Below.refl _ _⟩
        case round =>
          obtain ⟨c, hc, rfl, hno, hb2⟩ := hrel
          have HNO := Lib.hid hno
          have hs2 := hb2.size
          clear hno
          obtain ⟨d0, d1, d2⟩ := box3 (heap_keep hb2 HB0.out)
          by_cases hlt : c < (kidsOf ns j).length
          · obtain ⟨b, off, rfl, c0⟩ := (HF.out.2.keep hb2).at (k := c) (x := valOf ns adr sl (kidsOf ns j)[c]) (by simp [hlt])
            have hq := kidsOf_mem (List.getElem_mem hlt)
            have HS := Lib.hid (show ((kidsOf ns j).take (c + 1)).findSome? (fun q => (treeOf ns q).findSome? H) = (treeOf ns (kidsOf ns j)[c]).findSome? H by
              rw [List.take_succ_eq_append_getElem hlt, findSome_append, HNO.out]; simp)
            have HS2 := Lib.hid (show ∀ y, (treeOf ns (kidsOf ns j)[c]).findSome? H = some y → (kidsOf ns j).findSome? (fun q => (treeOf ns q).findSome? H) = some y from fun y h => by
              rw [← List.take_append_drop c (kidsOf ns j), findSome_append, HNO.out, List.drop_eq_getElem_cons hlt, List.findSome?_cons, h]; rfl)
            generalize (kidsOf ns j)[c] = q at *
            have hcall := IH.out q wr (by omega) hq.2.2 (HK.out.2.2.2.1.trans (hb2.mono HK.out.2.2.2.1.size)) (heap_keep hb2 HK.out.2.2.2.2.2.2.2.1) (cell_keep hb2 HK.out.2.2.2.2.2.2.2.2.1)
            obtain ⟨t, u, hv⟩ := valOf_iface (adr := adr) (sl := sl) hq.2.2
            rw [hv] at hcall c0
            clear hv
            cases hA : (treeOf ns q).findSome? H with
            | some y =>
              have hF2 : (treeOf ns i).findSome? H = some y := by rw [HF.out.1]; exact HS2.out y hA
              rw [hA] at hcall
              simp only [Option.isSome_some] at hcall
              have HC := Lib.hid hcall
              have HF2 := Lib.hid hF2
              clear hcall hF2 hA
              go_wp2_with (go_at_call 43; refine HC.out.mono ?_; rintro e w7 ⟨rfl, hb7⟩)
              go_ret
              exact ⟨by rw [HF2.out]; rfl, by rw [HF2.out]; exact AsToPost.after (HK.out.2.2.2.2.2.2.2.2.2.trans (hb2.mono HK.out.2.2.2.2.2.2.2.2.2.size)) hb7⟩
            | none =>
              rw [hA] at hcall
              simp only [Option.isSome_none] at hcall
              have HC := Lib.hid hcall
              have HA := Lib.hid hA
              clear hcall hA
              go_wp2_with (go_at_call 43; refine HC.out.mono ?_; rintro e w7 ⟨rfl, hb7⟩; replace hb7 := hb7.1 rfl)
              go_roundw
              case rel => exact ⟨c + 1, hlt, by go_num, by rw [HS.out]; exact HA.out, hb2.trans (hb7.mono hb2.size)⟩
              case measure => simp [intOf]; omega
          · obtain rfl : c = (kidsOf ns j).length := by omega
            have hno := HNO.out
            rw [List.take_length] at hno
            have HF2 := Lib.hid (show (treeOf ns i).findSome? H = none by rw [HF.out.1]; exact hno)
            clear hno
            go_wp2_with fail
            go_ret
            exact ⟨by rw [HF2.out]; rfl, by rw [HF2.out]; exact AsToPost.none (HK.out.2.2.2.2.2.2.2.2.2.trans (hb2.mono HK.out.2.2.2.2.2.2.2.2.2.size))⟩
      case alike =>
        simp only [errBy] at ⊢
        simp only [blkBy] at hmem
        have tO := typeOf_alike
        have aA := assignW_alike
        have h0 := asM_alike
        have h2 := one_alike
        have h3 := methU_alike
        clear hn hk
        rcases kidsOf_single HK.out.2.2.2.2.2.1 HK.out.2.2.2.2.2.2.1 (by simp) with hN | ⟨q, hN, hq, hjq⟩
        · have hF : (treeOf ns i).findSome? H = none := by rw [HK.out.1, HK.out.2.1, HK.out.2.2.1, hN]; simp
          have HF := Lib.hid hF
          have HU := Lib.hid (unwrap_alike (adr j) .nilIface wo (by rw [← kidVal_nil hN]; exact cell_of_heap hmem 1 rfl))
          clear hF hN hmem
          go_wp2_with (first | (go_at_call 78; refine HU.out.mono ?_; rintro e w6 ⟨rfl, rfl⟩))
          go_ret
          exact ⟨by rw [HF.out]; rfl, by rw [HF.out]; exact AsToPost.none HK.out.2.2.2.2.2.2.2.2.2⟩
        · have hF : (treeOf ns i).findSome? H = (treeOf ns q).findSome? H := by rw [HK.out.1, HK.out.2.1, HK.out.2.2.1, hN]; simp
          obtain ⟨t, u, hv⟩ := valOf_iface (adr := adr) (sl := sl) hq
          have HF := Lib.hid (And.intro hF hv)
          have HU := Lib.hid (unwrap_alike (adr j) (.iface t u) wo (by rw [← hv, ← kidVal_one hN]; exact cell_of_heap hmem 1 rfl))
          clear hF hN hmem hv
          go_wp2_with (first | (go_at_call 78; refine HU.out.mono ?_; rintro e w6 ⟨rfl, rfl⟩))
          go_roundg (ns.length - q)
          case measure => omega
          case rel => exact ⟨q, by omega, hq, Nat.le_refl _, HF.out.2.symm, HF.out.1, hbel⟩
      case acts =>
        simp only [errBy] at ⊢
        simp only [blkBy] at hmem
        have tO := typeOf_acts
        have aA := assignW_acts
        have h0 := asM_acts
        have h4 := methA_acts
        have h5 := nilA_acts
        have HA := Lib.hid (actsAs_other (adr j) 65 (.pointer (some ⟨T, 0, none⟩)) (by decide) wo)
        have h2 := one_acts
        have h3 := methU_acts
        clear hn hk
        rcases kidsOf_single HK.out.2.2.2.2.2.1 HK.out.2.2.2.2.2.2.1 (by simp) with hN | ⟨q, hN, hq, hjq⟩
        · have hF : (treeOf ns i).findSome? H = none := by rw [HK.out.1, HK.out.2.1, HK.out.2.2.1, hN]; simp
          have HF := Lib.hid hF
          have HU := Lib.hid (unwrap_acts (adr j) .nilIface wo (by rw [← kidVal_nil hN]; exact cell_of_heap hmem 1 rfl))
          clear hF hN hmem
          go_wp2_with (first | (go_at_call 81; refine HU.out.mono ?_; rintro e w6 ⟨rfl, rfl⟩) | (go_at_call 79; refine HA.out.mono ?_; rintro e w5 ⟨rfl, rfl⟩))
          go_ret
          exact ⟨by rw [HF.out]; rfl, by rw [HF.out]; exact AsToPost.none HK.out.2.2.2.2.2.2.2.2.2⟩
        · have hF : (treeOf ns i).findSome? H = (treeOf ns q).findSome? H := by rw [HK.out.1, HK.out.2.1, HK.out.2.2.1, hN]; simp
          obtain ⟨t, u, hv⟩ := valOf_iface (adr := adr) (sl := sl) hq
          have HF := Lib.hid (And.intro hF hv)
          have HU := Lib.hid (unwrap_acts (adr j) (.iface t u) wo (by rw [← hv, ← kidVal_one hN]; exact cell_of_heap hmem 1 rfl))
          clear hF hN hmem hv
          go_wp2_with (first | (go_at_call 81; refine HU.out.mono ?_; rintro e w6 ⟨rfl, rfl⟩) | (go_at_call 79; refine HA.out.mono ?_; rintro e w5 ⟨rfl, rfl⟩))
          go_roundg (ns.length - q)
          case measure => omega
          case rel => exact ⟨q, by omega, hq, Nat.le_refl _, HF.out.2.symm, HF.out.1, hbel⟩
end Go.Proofs.YtccoeajjomfmnaaDoor
