/-
  The contract of errors.is over the errors of nodes: whether an error of the tree matches the target.
  Conditions: the target can be compared.
-/
import Derived.Test.YtnekgmkonhclbaaMethIs
import Derived.Deep.LoopGhost
import Derived.Outline
namespace Go.Proofs.Ytnekgmkonhclbaa
open Go.RowKit Go.Lib

/-- What errors.is looks for: eq tells which nodes are equal to it, al which errors of the kind alike say to be it. -/
structure Tgt (w : World) (ns : List Nd) (adr : Nat → Nat) (sl : Nat → Value) (tv : Value) (eq al : Nat → Bool) : Prop where
  eqv : ∀ W i, Below w.heap.size w W → isThere ns i = true → (binOp .eql 56 (valOf ns adr sl i) tv).run Try.prog W = .ok (.bool (eq i)) W
  like : ∀ (W : World) (i : Nat) (nd : Nd), Below w.heap.size w W → isThere ns i = true → ns[i]? = some nd → kindOf nd.kind = some .alike → Calls Try.prog 78 #[.pointer (some ⟨adr i, 0, none⟩), tv] W fun e w' => e = .returned (.bool (al i)) ∧ Below W.heap.size W w'

/-- Whether a node matches. -/
def hitB (ns : List Nd) (eq al : Nat → Bool) (i : Nat) : Bool := eq i || (isKind ns kAlike i && al i)

theorem any_tree (ns : List Nd) (H : Nat → Bool) (i : Nat) (hi : i < ns.length) : (treeOf ns i).any H = (H i || (kidsOf ns i).any fun j => (treeOf ns j).any H) := by
  rw [treeOf_eq ns i hi, List.any_cons, List.any_flatMap]
theorem kidsOf_single {ns : List Nd} {i : Nat} {nd : Nd} {k : K8} (hn : ns[i]? = some nd) (hk : kindOf nd.kind = some k) (h1 : k = .wrap ∨ k = .alike ∨ k = .acts) : kidsOf ns i = [] ∨ ∃ j, kidsOf ns i = [j] ∧ isThere ns j = true ∧ i < j := by
  have key : ∀ o : Option Nat, o.toList = [] ∨ ∃ j, o.toList = [j] := fun o => by cases o; exact .inl rfl; exact .inr ⟨_, rfl⟩
  have e : kidsOf ns i = (nd.kids.head?.bind (liveKid ns i)).toList := by
    unfold kidsOf
    rw [hn]
    simp only [hk]
    rcases h1 with rfl | rfl | rfl <;> rfl
  rcases key (nd.kids.head?.bind (liveKid ns i)) with h | ⟨j, h⟩
  · exact .inl (by rw [e, h])
  · refine .inr ⟨j, by rw [e, h], ?_⟩
    have := kidsOf_mem (ns := ns) (i := i) (j := j) (by rw [e, h]; simp)
    exact ⟨this.2.2, this.1⟩
theorem kidsOf_none {ns : List Nd} {i : Nat} {nd : Nd} {k : K8} (hn : ns[i]? = some nd) (hk : kindOf nd.kind = some k) (h1 : k = .text ∨ k = .value ∨ k = .list) : kidsOf ns i = [] := by
  unfold kidsOf
  rw [hn]
  simp only [hk]
  rcases h1 with rfl | rfl | rfl <;> rfl
theorem isKind_of {ns : List Nd} {i : Nat} {nd : Nd} {k : K8} (hn : ns[i]? = some nd) (hk : kindOf nd.kind = some k) (q : K8) : isKind ns q.word i = decide (k = q) := by
  unfold isKind
  rw [hn]
  simp only [word_of_kind hk]
  cases k <;> cases q <;> decide
theorem kidVal_nil {ns : List Nd} {adr : Nat → Nat} {sl : Nat → Value} {i : Nat} (h : kidsOf ns i = []) : kidVal ns adr sl i = .nilIface := by unfold kidVal; rw [h]; rfl
theorem kidVal_one {ns : List Nd} {adr : Nat → Nat} {sl : Nat → Value} {i j : Nat} (h : kidsOf ns i = [j]) : kidVal ns adr sl i = valOf ns adr sl j := by unfold kidVal; rw [h]; rfl
theorem valOf_iface {ns : List Nd} {adr : Nat → Nat} {sl : Nat → Value} {j : Nat} (h : isThere ns j = true) : ∃ t u, valOf ns adr sl j = .iface t u := by
  obtain ⟨nd, k, hn, hk⟩ := isThere_kind h
  rw [valOf_there h hn hk]
  exact errBy_iface _ _ _ _ _

/-- The relation of the loop of errors.is. -/
def IsRel (w : World) (ns : List Nd) (adr : Nat → Nat) (sl : Nat → Value) (H : Nat → Bool) (i gk : Nat) (v0 : Value) (wr : World) : Prop :=
  ∃ j, i ≤ j ∧ isThere ns j = true ∧ ns.length - j ≤ gk ∧ v0 = valOf ns adr sl j ∧ (treeOf ns i).any H = (treeOf ns j).any H ∧ Below w.heap.size w wr

set_option maxRecDepth 100000 in
set_option maxHeartbeats 8000000 in
theorem is_any {w0 : World} {ns : List Nd} {adr : Nat → Nat} {sl : Nat → Value} {base : Nat} {tv : Value} {eq al : Nat → Bool} (L : Lies w0 ns adr sl base 0) (T : Tgt w0 ns adr sl tv eq al) :
    ∀ (m i : Nat) (w : World), ns.length - i ≤ m → isThere ns i = true → Below w0.heap.size w0 w →
    Calls Try.prog 49 #[valOf ns adr sl i, tv, .bool true] w fun e w' => e = .returned (.bool ((treeOf ns i).any (hitB ns eq al))) ∧ Below w.heap.size w w' := by
  intro m
  induction m with
  | zero => intro i w hm hi; have := isThere_lt hi; omega
  | succ m ih =>
    intro i w hm hi hw
    have IH := Lib.hid ih
    have HL := Lib.hid L
    have HT := Lib.hid T
    clear ih L T
    have hR0 : IsRel w ns adr sl (hitB ns eq al) i (ns.length - i) (valOf ns adr sl i) w := ⟨i, Nat.le_refl _, hi, Nat.le_refl _, rfl, rfl, Below.refl _ _⟩
    generalize valOf ns adr sl i = v0 at *
    generalize hH : hitB ns eq al = H at *
    have HH := Lib.hid hH
    clear hH
    have R0 := Lib.hid hR0
    clear hR0
    go_enter Try.func49, Try.ntmps49
    go_wp2_with fail
    go_loopg [0] (ns.length - i) (fun gk v0 wr => IsRel w ns adr sl H i gk v0 wr)
    case atStart => exact R0.out
    case round =>
      obtain ⟨j, hij, hj, hgk, rfl, hany, hbel⟩ := hrel
      clear R0
      obtain ⟨wo, rfl⟩ : ∃ wo : World, wo = wr := ⟨_, rfl⟩
      obtain ⟨nd, k, hn, hk⟩ := isThere_kind hj
      have hw1 := hw.trans (hbel.mono hw.size)
      have hL1 := HL.out.keep hw1
      have hmem := hL1.mem j nd k (Nat.zero_le _) hn hj hk
      have heq := HT.out.eqv wo j hw1 hj
      have hjl := isThere_lt hj
      rw [valOf_there hj hn hk] at heq ⊢
      have hat := any_tree ns H j hjl
      have hHj : H j = (eq j || (decide (k = .alike) && al j)) := by
        rw [← HH.out]; unfold hitB; rw [show kAlike = K8.alike.word from rfl, isKind_of hn hk]
      have hrow := hL1.row j nd k (Nat.zero_le _) hn hj hk
      have HK := Lib.hid (And.intro hany (And.intro hat (And.intro hHj (And.intro hw1 (And.intro hrow (And.intro hn hk))))))
      clear hany hat hHj hrow hL1
      obtain ⟨kd, key, text, kids⟩ := nd
      cases k
      case text =>
        simp only [errBy] at heq ⊢
        have h1 := isM_text
        have h2 := one_text
        have h3 := many_text
        have HN := Lib.hid (kidsOf_none HK.out.2.2.2.2.2.1 HK.out.2.2.2.2.2.2 (by simp))
        clear hmem hn hk
        cases hE : eq j with
        | true =>
          rw [hE] at heq
          have hF : (treeOf ns i).any H = true := by rw [HK.out.1, HK.out.2.1, HK.out.2.2.1, hE]; simp
          have HF := Lib.hid hF
          clear hE hF h1 h2 h3
          go_wp2_with fail
          go_ret
          exact ⟨by rw [HF.out]; rfl, hbel⟩
        | false =>
          rw [hE] at heq
          have hF : (treeOf ns i).any H = false := by rw [HK.out.1, HK.out.2.1, HK.out.2.2.1, hE, HN.out]; simp
          have HF := Lib.hid hF
          clear hE hF
          go_wp2_with fail
          go_ret
          exact ⟨by rw [HF.out]; rfl, hbel⟩
      case value =>
        simp only [errBy] at heq ⊢
        have h1 := isM_value
        have h2 := one_value
        have h3 := many_value
        have HN := Lib.hid (kidsOf_none HK.out.2.2.2.2.2.1 HK.out.2.2.2.2.2.2 (by simp))
        clear hmem hn hk
        cases hE : eq j with
        | true =>
          rw [hE] at heq
          have hF : (treeOf ns i).any H = true := by rw [HK.out.1, HK.out.2.1, HK.out.2.2.1, hE]; simp
          have HF := Lib.hid hF
          clear hE hF h1 h2 h3
          go_wp2_with fail
          go_ret
          exact ⟨by rw [HF.out]; rfl, hbel⟩
        | false =>
          rw [hE] at heq
          have hF : (treeOf ns i).any H = false := by rw [HK.out.1, HK.out.2.1, HK.out.2.2.1, hE, HN.out]; simp
          have HF := Lib.hid hF
          clear hE hF
          go_wp2_with fail
          go_ret
          exact ⟨by rw [HF.out]; rfl, hbel⟩
      case list =>
        simp only [errBy] at heq ⊢
        have h1 := isM_list
        have h2 := one_list
        have h3 := many_list
        have HN := Lib.hid (kidsOf_none HK.out.2.2.2.2.2.1 HK.out.2.2.2.2.2.2 (by simp))
        clear hmem hn hk
        cases hE : eq j with
        | true =>
          rw [hE] at heq
          have hF : (treeOf ns i).any H = true := by rw [HK.out.1, HK.out.2.1, HK.out.2.2.1, hE]; simp
          have HF := Lib.hid hF
          clear hE hF h1 h2 h3
          go_wp2_with fail
          go_ret
          exact ⟨by rw [HF.out]; rfl, hbel⟩
        | false =>
          rw [hE] at heq
          have hF : (treeOf ns i).any H = false := by rw [HK.out.1, HK.out.2.1, HK.out.2.2.1, hE, HN.out]; simp
          have HF := Lib.hid hF
          clear hE hF
          go_wp2_with fail
          go_ret
          exact ⟨by rw [HF.out]; rfl, hbel⟩
      case wrap =>
        simp only [errBy] at heq ⊢
        simp only [blkBy] at hmem
        have h1 := isM_wrap
        have h2 := one_wrap
        have h3 := methU_wrap
        clear hn hk
        cases hE : eq j with
        | true =>
          rw [hE] at heq
          have hF : (treeOf ns i).any H = true := by rw [HK.out.1, HK.out.2.1, HK.out.2.2.1, hE]; simp
          have HF := Lib.hid hF
          clear hE hF h1 h2 h3 hmem
          go_wp2_with fail
          go_ret
          exact ⟨by rw [HF.out]; rfl, hbel⟩
        | false =>
          rw [hE] at heq
          rcases kidsOf_single HK.out.2.2.2.2.2.1 HK.out.2.2.2.2.2.2 (by simp) with hN | ⟨q, hN, hq, hjq⟩
          · have hF : (treeOf ns i).any H = false := by rw [HK.out.1, HK.out.2.1, HK.out.2.2.1, hE, hN]; simp
            have HF := Lib.hid hF
            have HU := Lib.hid (fun W (hW : Below wo.heap.size wo W) => unwrap_wrap (adr j) .nilIface W (by rw [← kidVal_nil hN]; exact cell_keep hW (cell_of_heap hmem 1 rfl)))
            clear hE hF hN hmem
            go_wp2_with (first | (go_at_call 75; refine (HU.out _ (by first | exact Below.refl _ _ | exact hb5)).mono ?_; rintro e w6 ⟨rfl, rfl⟩))
            go_ret
            exact ⟨by rw [HF.out]; rfl, hbel⟩
          · have hF : (treeOf ns i).any H = (treeOf ns q).any H := by rw [HK.out.1, HK.out.2.1, HK.out.2.2.1, hE, hN]; simp
            obtain ⟨t, u, hv⟩ := valOf_iface (adr := adr) (sl := sl) hq
            have HF := Lib.hid (And.intro hF hv)
            have HU := Lib.hid (fun W (hW : Below wo.heap.size wo W) => unwrap_wrap (adr j) (.iface t u) W (by rw [← hv, ← kidVal_one hN]; exact cell_keep hW (cell_of_heap hmem 1 rfl)))
            clear hE hF hN hmem hv
            go_wp2_with (first | (go_at_call 75; refine (HU.out _ (by first | exact Below.refl _ _ | exact hb5)).mono ?_; rintro e w6 ⟨rfl, rfl⟩))
            go_roundg (ns.length - q)
            case measure => omega
            case rel => exact ⟨q, by omega, hq, Nat.le_refl _, HF.out.2.symm, HF.out.1, hbel⟩
      case acts =>
        simp only [errBy] at heq ⊢
        simp only [blkBy] at hmem
        have h1 := isM_acts
        have h2 := one_acts
        have h3 := methU_acts
        clear hn hk
        cases hE : eq j with
        | true =>
          rw [hE] at heq
          have hF : (treeOf ns i).any H = true := by rw [HK.out.1, HK.out.2.1, HK.out.2.2.1, hE]; simp
          have HF := Lib.hid hF
          clear hE hF h1 h2 h3 hmem
          go_wp2_with fail
          go_ret
          exact ⟨by rw [HF.out]; rfl, hbel⟩
        | false =>
          rw [hE] at heq
          rcases kidsOf_single HK.out.2.2.2.2.2.1 HK.out.2.2.2.2.2.2 (by simp) with hN | ⟨q, hN, hq, hjq⟩
          · have hF : (treeOf ns i).any H = false := by rw [HK.out.1, HK.out.2.1, HK.out.2.2.1, hE, hN]; simp
            have HF := Lib.hid hF
            have HU := Lib.hid (fun W (hW : Below wo.heap.size wo W) => unwrap_acts (adr j) .nilIface W (by rw [← kidVal_nil hN]; exact cell_keep hW (cell_of_heap hmem 1 rfl)))
            clear hE hF hN hmem
            go_wp2_with (first | (go_at_call 82; refine (HU.out _ (by first | exact Below.refl _ _ | exact hb5)).mono ?_; rintro e w6 ⟨rfl, rfl⟩))
            go_ret
            exact ⟨by rw [HF.out]; rfl, hbel⟩
          · have hF : (treeOf ns i).any H = (treeOf ns q).any H := by rw [HK.out.1, HK.out.2.1, HK.out.2.2.1, hE, hN]; simp
            obtain ⟨t, u, hv⟩ := valOf_iface (adr := adr) (sl := sl) hq
            have HF := Lib.hid (And.intro hF hv)
            have HU := Lib.hid (fun W (hW : Below wo.heap.size wo W) => unwrap_acts (adr j) (.iface t u) W (by rw [← hv, ← kidVal_one hN]; exact cell_keep hW (cell_of_heap hmem 1 rfl)))
            clear hE hF hN hmem hv
            go_wp2_with (first | (go_at_call 82; refine (HU.out _ (by first | exact Below.refl _ _ | exact hb5)).mono ?_; rintro e w6 ⟨rfl, rfl⟩))
            go_roundg (ns.length - q)
            case measure => omega
            case rel => exact ⟨q, by omega, hq, Nat.le_refl _, HF.out.2.symm, HF.out.1, hbel⟩
      case alike =>
        simp only [errBy] at heq ⊢
        simp only [blkBy] at hmem
        have h1 := isM_alike
        have h2 := one_alike
        have h3 := methU_alike
        have h4 := methI_alike
        have HI := Lib.hid (HT.out.like wo j _ HK.out.2.2.2.1 hj HK.out.2.2.2.2.2.1 HK.out.2.2.2.2.2.2)
        clear hn hk
        cases hE : eq j with
        | true =>
          rw [hE] at heq
          have hF : (treeOf ns i).any H = true := by rw [HK.out.1, HK.out.2.1, HK.out.2.2.1, hE]; simp
          have HF := Lib.hid hF
          clear hE hF h1 h2 h3 h4 hmem
          go_wp2_with fail
          go_ret
          exact ⟨by rw [HF.out]; rfl, hbel⟩
        | false =>
          rw [hE] at heq
          cases hA : al j with
          | true =>
            have hF : (treeOf ns i).any H = true := by rw [HK.out.1, HK.out.2.1, HK.out.2.2.1, hE, hA]; simp
            rw [hA] at HI
            have HF := Lib.hid hF
            clear hE hF hmem hA
            go_wp2_with (go_at_call 78; refine HI.out.mono ?_; rintro e w5 ⟨rfl, hb5⟩)
            go_ret
            exact ⟨by rw [HF.out]; rfl, hbel.trans (hb5.mono hbel.size)⟩
          | false =>
            rw [hA] at HI
            rcases kidsOf_single HK.out.2.2.2.2.2.1 HK.out.2.2.2.2.2.2 (by simp) with hN | ⟨q, hN, hq, hjq⟩
            · have hF : (treeOf ns i).any H = false := by rw [HK.out.1, HK.out.2.1, HK.out.2.2.1, hE, hN]; simp [hA]
              have HF := Lib.hid hF
              have HU := Lib.hid (fun W (hW : Below wo.heap.size wo W) => unwrap_alike (adr j) .nilIface W (by rw [← kidVal_nil hN]; exact cell_keep hW (cell_of_heap hmem 1 rfl)))
              clear hE hF hN hmem
              go_wp2_with (first | (go_at_call 79; refine (HU.out _ (by first | exact Below.refl _ _ | exact hb5)).mono ?_; rintro e w6 ⟨rfl, rfl⟩) | (go_at_call 78; refine HI.out.mono ?_; rintro e w5 ⟨rfl, hb5⟩))
              go_ret
              exact ⟨by rw [HF.out]; rfl, hbel.trans (hb5.mono hbel.size)⟩
            · have hF : (treeOf ns i).any H = (treeOf ns q).any H := by rw [HK.out.1, HK.out.2.1, HK.out.2.2.1, hE, hN]; simp [hA]
              obtain ⟨t, u, hv⟩ := valOf_iface (adr := adr) (sl := sl) hq
              have HF := Lib.hid (And.intro hF hv)
              have HU := Lib.hid (fun W (hW : Below wo.heap.size wo W) => unwrap_alike (adr j) (.iface t u) W (by rw [← hv, ← kidVal_one hN]; exact cell_keep hW (cell_of_heap hmem 1 rfl)))
              clear hE hF hN hmem hv
              go_wp2_with (first | (go_at_call 79; refine (HU.out _ (by first | exact Below.refl _ _ | exact hb5)).mono ?_; rintro e w6 ⟨rfl, rfl⟩) | (go_at_call 78; refine HI.out.mono ?_; rintro e w5 ⟨rfl, hb5⟩))
              go_roundg (ns.length - q)
              case measure => omega
              case rel => exact ⟨q, by omega, hq, Nat.le_refl _, HF.out.2.symm, HF.out.1, hbel.trans (hb5.mono hbel.size)⟩
      case many =>
        simp only [errBy] at heq ⊢
        simp only [blkBy] at hmem
        have h1 := isM_many
        have h2 := one_many
        have h3 := methU_many
        have h4 := many_many
        clear hn hk
        cases hE : eq j with
        | true =>
          rw [hE] at heq
          have hF : (treeOf ns i).any H = true := by rw [HK.out.1, HK.out.2.1, HK.out.2.2.1, hE]; simp
          have HF := Lib.hid hF
          clear hE hF h1 h2 h3 h4 hmem
          go_wp2_with fail
          go_ret
          exact ⟨by rw [HF.out]; rfl, hbel⟩
        | false =>
          rw [hE] at heq
          have hF : (treeOf ns i).any H = (kidsOf ns j).any fun q => (treeOf ns q).any H := by rw [HK.out.1, HK.out.2.1, HK.out.2.2.1, hE]; simp
          have hrow := Vals.of_own (HK.out.2.2.2.2.1 (by simp))
          obtain ⟨SA, sc, hsl, hscl, hscm⟩ := hrow.form
          rw [List.length_map] at hsl hscl
          rw [hsl] at hmem hrow
          simp only [maxLen] at hscm
          have HU := Lib.hid (unwrap_many (adr j) _ wo (cell_of_heap hmem 1 rfl))
          have HF := Lib.hid (And.intro hF hrow)
          clear hE hF hmem hrow hsl
          go_wp2_with (go_at_call 73; refine HU.out.mono ?_; rintro e w6 ⟨rfl, rfl⟩)
          go_loopw [45] (fun v45 wr => ∃ c : Nat, c ≤ (kidsOf ns j).length ∧ v45 = .int .i64 c ∧ ((kidsOf ns j).take c).any (fun q => (treeOf ns q).any H) = false ∧ Below wo.heap.size wo wr) (fun v45 _ => (kidsOf ns j).length - (intOf v45).toNat)
          case atStart => exact ⟨0, Nat.zero_le _, rfl, by simp, Below.refl _ _⟩
          case round =>
            obtain ⟨c, hc, rfl, hno, hb2⟩ := hrel
            have HNO := Lib.hid hno
            have hs2 := hb2.size
            clear hno
            by_cases hlt : c < (kidsOf ns j).length
            · obtain ⟨b, off, rfl, c0⟩ := (HF.out.2.keep hb2).at (k := c) (x := valOf ns adr sl (kidsOf ns j)[c]) (by simp [hlt])
              have hq := kidsOf_mem (List.getElem_mem hlt)
              have HS := Lib.hid (show ((kidsOf ns j).take (c + 1)).any (fun q => (treeOf ns q).any H) = (treeOf ns (kidsOf ns j)[c]).any H by
                rw [List.take_succ_eq_append_getElem hlt, List.any_append, HNO.out]; simp)
              have HS2 := Lib.hid (show (treeOf ns (kidsOf ns j)[c]).any H = true → (kidsOf ns j).any (fun q => (treeOf ns q).any H) = true from fun h => List.any_eq_true.2 ⟨_, List.getElem_mem hlt, h⟩)
              generalize (kidsOf ns j)[c] = q at *
              have hcall := IH.out q wr (by omega) hq.2.2 (HK.out.2.2.2.1.trans (hb2.mono HK.out.2.2.2.1.size))
              generalize valOf ns adr sl q = x at *
              cases hA : (treeOf ns q).any H with
              | true =>
                have hF2 : (treeOf ns i).any H = true := by rw [HF.out.1]; exact HS2.out hA
                rw [hA] at hcall
                have HC := Lib.hid hcall
                have HF2 := Lib.hid hF2
                clear hcall hF2 hA
                go_wp2_with (go_at_call 49; refine HC.out.mono ?_; rintro e w7 ⟨rfl, hb7⟩)
                go_ret
                exact ⟨by rw [HF2.out]; rfl, (hbel.trans (hb2.mono hbel.size)).trans (hb7.mono (Nat.le_trans hbel.size hb2.size))⟩
              | false =>
                rw [hA] at hcall
                have HC := Lib.hid hcall
                have HA := Lib.hid hA
                clear hcall hA
                go_wp2_with (go_at_call 49; refine HC.out.mono ?_; rintro e w7 ⟨rfl, hb7⟩)
                go_roundw
                case rel => exact ⟨c + 1, hlt, by go_num, by rw [HS.out]; exact HA.out, hb2.trans (hb7.mono hb2.size)⟩
                case measure => simp [intOf]; omega
            · obtain rfl : c = (kidsOf ns j).length := by omega
              have hno := HNO.out
              rw [List.take_length] at hno
              have HF2 := Lib.hid (show (treeOf ns i).any H = false by rw [HF.out.1]; exact hno)
              clear hno
              go_wp2_with fail
              go_ret
              exact ⟨by rw [HF2.out]; rfl, hbel.trans (hb2.mono hbel.size)⟩
      case join =>
        simp only [errBy] at heq ⊢
        simp only [blkBy] at hmem
        have h1 := isM_join
        have h2 := one_join
        have h3 := methU_join
        have h4 := many_join
        clear hn hk
        cases hE : eq j with
        | true =>
          rw [hE] at heq
          have hF : (treeOf ns i).any H = true := by rw [HK.out.1, HK.out.2.1, HK.out.2.2.1, hE]; simp
          have HF := Lib.hid hF
          clear hE hF h1 h2 h3 h4 hmem
          go_wp2_with fail
          go_ret
          exact ⟨by rw [HF.out]; rfl, hbel⟩
        | false =>
          rw [hE] at heq
          have hF : (treeOf ns i).any H = (kidsOf ns j).any fun q => (treeOf ns q).any H := by rw [HK.out.1, HK.out.2.1, HK.out.2.2.1, hE]; simp
          have hrow := Vals.of_own (HK.out.2.2.2.2.1 (by simp))
          obtain ⟨SA, sc, hsl, hscl, hscm⟩ := hrow.form
          rw [List.length_map] at hsl hscl
          rw [hsl] at hmem hrow
          simp only [maxLen] at hscm
          have HU := Lib.hid (unwrap_join (adr j) _ wo (cell_of_heap hmem 0 rfl))
          have HF := Lib.hid (And.intro hF hrow)
          clear hE hF hmem hrow hsl
          go_wp2_with (go_at_call 85; refine HU.out.mono ?_; rintro e w6 ⟨rfl, rfl⟩)
          go_loopw [45] (fun v45 wr => ∃ c : Nat, c ≤ (kidsOf ns j).length ∧ v45 = .int .i64 c ∧ ((kidsOf ns j).take c).any (fun q => (treeOf ns q).any H) = false ∧ Below wo.heap.size wo wr) (fun v45 _ => (kidsOf ns j).length - (intOf v45).toNat)
          case atStart => exact ⟨0, Nat.zero_le _, rfl, by simp, Below.refl _ _⟩
          case round =>
            obtain ⟨c, hc, rfl, hno, hb2⟩ := hrel
            have HNO := Lib.hid hno
            have hs2 := hb2.size
            clear hno
            by_cases hlt : c < (kidsOf ns j).length
            · obtain ⟨b, off, rfl, c0⟩ := (HF.out.2.keep hb2).at (k := c) (x := valOf ns adr sl (kidsOf ns j)[c]) (by simp [hlt])
              have hq := kidsOf_mem (List.getElem_mem hlt)
              have HS := Lib.hid (show ((kidsOf ns j).take (c + 1)).any (fun q => (treeOf ns q).any H) = (treeOf ns (kidsOf ns j)[c]).any H by
                rw [List.take_succ_eq_append_getElem hlt, List.any_append, HNO.out]; simp)
              have HS2 := Lib.hid (show (treeOf ns (kidsOf ns j)[c]).any H = true → (kidsOf ns j).any (fun q => (treeOf ns q).any H) = true from fun h => List.any_eq_true.2 ⟨_, List.getElem_mem hlt, h⟩)
              generalize (kidsOf ns j)[c] = q at *
              have hcall := IH.out q wr (by omega) hq.2.2 (HK.out.2.2.2.1.trans (hb2.mono HK.out.2.2.2.1.size))
              generalize valOf ns adr sl q = x at *
              cases hA : (treeOf ns q).any H with
              | true =>
                have hF2 : (treeOf ns i).any H = true := by rw [HF.out.1]; exact HS2.out hA
                rw [hA] at hcall
                have HC := Lib.hid hcall
                have HF2 := Lib.hid hF2
                clear hcall hF2 hA
                go_wp2_with (go_at_call 49; refine HC.out.mono ?_; rintro e w7 ⟨rfl, hb7⟩)
                go_ret
                exact ⟨by rw [HF2.out]; rfl, (hbel.trans (hb2.mono hbel.size)).trans (hb7.mono (Nat.le_trans hbel.size hb2.size))⟩
              | false =>
                rw [hA] at hcall
                have HC := Lib.hid hcall
                have HA := Lib.hid hA
                clear hcall hA
                go_wp2_with (go_at_call 49; refine HC.out.mono ?_; rintro e w7 ⟨rfl, hb7⟩)
                go_roundw
                case rel => exact ⟨c + 1, hlt, by go_num, by rw [HS.out]; exact HA.out, hb2.trans (hb7.mono hb2.size)⟩
                case measure => simp [intOf]; omega
            · obtain rfl : c = (kidsOf ns j).length := by omega
              have hno := HNO.out
              rw [List.take_length] at hno
              have HF2 := Lib.hid (show (treeOf ns i).any H = false by rw [HF.out.1]; exact hno)
              clear hno
              go_wp2_with fail
              go_ret
              exact ⟨by rw [HF2.out]; rfl, hbel.trans (hb2.mono hbel.size)⟩
end Go.Proofs.Ytnekgmkonhclbaa
