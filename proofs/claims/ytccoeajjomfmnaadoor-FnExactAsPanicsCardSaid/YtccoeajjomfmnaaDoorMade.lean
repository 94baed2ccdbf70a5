/-
  The contract of impl.made: the errors of nodes lie in memory as their kinds say.
  Conditions: at most 2^36 nodes, and at most 2^36 kids of each.
-/
import Derived.Test.YtccoeajjomfmnaaDoorForest
import Derived.Test.YtccoeajjomfmnaaDoorNew
import Derived.Deep.RegionWith
import Derived.Outline
namespace Go.Proofs.YtccoeajjomfmnaaDoor
open Go.RowKit Go.Lib

theorem elemTree : Elem Tryd.prog 56 54 1 16 := Elem.mk Tryd.underlying56 (z := .nilIface) (by kernel_rfl) rfl (by decide) (by decide)
theorem zeroErr : (Tryd.prog.info? 54).map (·.zero) = some (some .nilIface) := by kernel_rfl

/-- The relation of the loop: the nodes from m on are made. -/
def MadeTo (w : World) (ns : List Nd) (m : Nat) (wr : World) : Prop :=
  ∃ adr sl, wr.ownsRow w.heap.size 54 1 (.slice (some ⟨w.heap.size, 0, none⟩) ns.length ns.length) ns.length (partly ns adr sl m) ∧ Lies wr ns adr sl (w.heap.size + 1) m ∧ Below w.heap.size w wr

/-- One node more is made: its error is stored. -/
theorem made_step {w wr w4 : World} {ns : List Nd} {adr : Nat → Nat} {sl : Nat → Value} {m b : Nat} {sv x : Value} {nd : Nd}
    (hown : wr.ownsRow w.heap.size 54 1 (.slice (some ⟨w.heap.size, 0, none⟩) ns.length ns.length) ns.length (partly ns adr sl (m + 1))) (hl : Lies wr ns adr sl (w.heap.size + 1) (m + 1)) (hb : Below w.heap.size w wr)
    (hn : ns[m]? = some nd) (hb4 : Below wr.heap.size wr w4) (h1 : wr.heap.size ≤ b) (h2 : b < w4.heap.size)
    (hm : ∀ k, isThere ns m = true → kindOf nd.kind = some k → blkBy w4 k nd b (kidVal ns adr sl m) sv)
    (hr : ∀ k, isThere ns m = true → kindOf nd.kind = some k → (k = .many ∨ k = .join) → w4.ownsRow (w.heap.size + 1) 54 1 sv (kidsOf ns m).length ((kidsOf ns m).map (valOf ns adr sl)))
    (hx : x = valOf ns (upd adr m b) (upd sl m sv) m) : MadeTo w ns m (w4.setCell ⟨w.heap.size, m, none⟩ x) := by
  have hlt : m < ns.length := by
    rcases Nat.lt_or_ge m ns.length with h | h
    · exact h
    · rw [List.getElem?_eq_none h] at hn; cases hn
  have hg0 : w.heap.size < wr.heap.size := (hown.lt w.heap.size rfl).2
  have hs := (own_below hown hb4).stored m x
  have hgr : wr.grownBy (w4.setCell ⟨w.heap.size, m, none⟩ x) (some w.heap.size) :=
    ⟨hb4.os, hb4.tape, hb4.output, Nat.le_trans hb4.size hs.2.size, fun k hk hne => (hs.2.block k (Nat.lt_of_lt_of_le hk hb4.size) hne).trans (hb4.block k hk)⟩
  refine ⟨upd adr m b, upd sl m sv, ?_, hl.step hn hgr (by omega) (by omega) h1 (by simp [World.setCell]; omega) ?_ ?_, ?_⟩
  · rw [partly_step b sv hlt, ← hx]
    exact hs.1
  · intro k h3 h4
    exact blkBy_kept (hm k h3 h4) (Below.heap_setCell _ _ _ _ (by show b ≠ w.heap.size; omega))
  · intro k h3 h4 h5
    refine (hr k h3 h4 h5).kept hs.2 ?_
    cases hv : sv.ownBlock with
    | none => exact .inl rfl
    | some c =>
      have := (hr k h3 h4 h5).lt c hv
      exact .inr (fun e => by injection e with e; omega)
  · exact (hb.trans (hb4.mono hb.size)).setCell (by simp) _

/-- One node more is made: it is no error, and nothing is stored. -/
theorem made_skip {w wr w4 : World} {ns : List Nd} {adr : Nat → Nat} {sl : Nat → Value} {m : Nat} {nd : Nd}
    (hown : wr.ownsRow w.heap.size 54 1 (.slice (some ⟨w.heap.size, 0, none⟩) ns.length ns.length) ns.length (partly ns adr sl (m + 1))) (hl : Lies wr ns adr sl (w.heap.size + 1) (m + 1)) (hb : Below w.heap.size w wr)
    (hn : ns[m]? = some nd) (hb4 : Below wr.heap.size wr w4) (h2 : wr.heap.size < w4.heap.size) (hk : isThere ns m = false) : MadeTo w ns m w4 := by
  have hlt : m < ns.length := by
    rcases Nat.lt_or_ge m ns.length with h | h
    · exact h
    · rw [List.getElem?_eq_none h] at hn; cases hn
  have hg0 : w.heap.size < wr.heap.size := (hown.lt w.heap.size rfl).2
  have hgr : wr.grownBy w4 (some w.heap.size) := ⟨hb4.os, hb4.tape, hb4.output, hb4.size, fun k hk _ => hb4.block k hk⟩
  refine ⟨upd adr m wr.heap.size, upd sl m .nilIface, ?_, hl.step hn hgr (by omega) (by omega) (Nat.le_refl _) h2 (fun k h => by rw [hk] at h; cases h) (fun k h => by rw [hk] at h; cases h), hb.trans (hb4.mono hb.size)⟩
  rw [partly_step _ _ hlt, valOf_not hk]
  have e : (partly ns adr sl (m + 1)).set m .nilIface = partly ns adr sl (m + 1) := by
    apply List.ext_getElem?
    intro j
    rw [List.getElem?_set]
    by_cases hj : m = j
    · subst hj
      rw [if_pos rfl, partly_length, if_pos hlt, partly_get hlt, if_pos (Nat.lt_succ_self m)]
    · rw [if_neg hj]
  rw [e]
  exact own_below hown hb4

theorem MadeTo.drew {w : World} {ns : List Nd} {m : Nat} {wr : World} (h : MadeTo w ns m wr) : MadeTo w ns m wr.drew := by
  obtain ⟨adr, sl, h1, h2, h3⟩ := h
  exact ⟨adr, sl, h1, h2.keep ((Below.refl _ _).drew), h3.drew⟩

theorem kidsOf_kind {ns : List Nd} {m : Nat} {nd : Nd} {k : K8} (hn : ns[m]? = some nd) (hk : kindOf nd.kind = some k) : kidsOf ns m = kidsBy ns m k nd.kids := by
  unfold kidsOf
  rw [hn]
  simp only [hk]

set_option maxRecDepth 100000 in
set_option maxHeartbeats 4000000 in
theorem made_loop (v : Value) (ns : List Nd) (kv : Nat → Value) (w : World) (h : Nodes w v ns kv) (hn : ns.length ≤ 68719476736) (hk : ∀ nd ∈ ns, nd.kids.length ≤ 68719476736) :
    Calls Tryd.prog 24 #[v] w fun e w' => e = .returned (.slice (some ⟨w.heap.size, 0, none⟩) ns.length ns.length) ∧ MadeTo w ns 0 w' := by
  obtain ⟨A, cap, rfl, h1, h2⟩ := h.form
  simp only [maxLen] at h2
  obtain ⟨C, hC, hmk⟩ := elemTree.make zeroErr rfl ns.length (by omega) (by omega)
  have M0 : MadeTo w ns ns.length (w.alloc (.cells C 54)) := by
    refine ⟨fun _ => 0, fun _ => .nilIface, ?_, ⟨fun i nd k h1 h2 => ?_, fun i nd k h1 h2 => ?_, fun i j h1 h2 h3 => ?_, fun i h1 h2 => ?_⟩, (Below.refl _ _).alloc (Nat.le_refl _) _⟩
    · have hs : C.size = ns.length := by rw [← Array.length_toList, hC]; simp
      have := World.ownsRow_lit (base := w.heap.size) (e := 54) (size := 1) w C ns.length (Nat.le_refl _) (by simp only [maxLen]; omega) (by omega)
      rw [partly_none, ← hC]
      exact this
    · rw [List.getElem?_eq_none h1] at h2; cases h2
    · rw [List.getElem?_eq_none h1] at h2; cases h2
    · omega
    · omega
  have HM := Lib.hid M0
  have H := Lib.hid h
  have HK := Lib.hid hk
  clear h hk M0 hC
  go_enter Tryd.func24, Tryd.ntmps24
  go_wp2_with fail
  clear hmk
  go_loopw [4] (fun v4 wr => ∃ (m : Nat) (z : Int), m ≤ ns.length ∧ z + 1 = (m : Int) ∧ v4 = .int .i64 z ∧ MadeTo w ns m wr) (fun v4 _ => (intOf v4 + 1).toNat)
  case atStart => exact ⟨ns.length, (ns.length : Int) - 1, Nat.le_refl _, by omega, rfl, HM.out⟩
  case round =>
    obtain ⟨m, z, hm, hz, rfl, hmade⟩ := hrel
    cases m with
    | zero =>
      obtain rfl : z = -1 := by omega
      have HE := Lib.hid hmade
      clear hmade
      go_wp2_with fail
      go_ret
      exact ⟨rfl, HE.out⟩
    | succ m =>
      obtain rfl : z = (m : Int) := by omega
      clear hz
      obtain ⟨adr, sl, hown, hlies, hbel⟩ := hmade
      have hmn : m < ns.length := hm
      have hs1 := hbel.size
      have hnd : ns[m]? = some ns[m] := List.getElem?_eq_getElem hmn
      obtain ⟨b, off, KA, kc, rfl, hkv, c0, c1, c2, c3, hkc, hkm⟩ := Nodes.at (H.out.keep hbel) hnd
      have hkids : Ints wr (.slice KA ns[m].kids.length kc) ns[m].kids := by have := (H.out.2 m _ hnd).keep hbel; rw [hkv] at this; exact this
      have hkl := HK.out ns[m] (List.getElem_mem hmn)
      clear hkv
      generalize hnde : ns[m] = nd at *
      obtain ⟨kd, key, text, kids⟩ := nd
      dsimp only at c0 c1 c2 c3 hkc hkids hkl
      have HND := Lib.hid hnd
      clear hnd hnde
      have hb1 : Below wr.heap.size wr (wr.alloc (.cells #[.string kd, .int .i64 key, .string text, .slice KA kids.length kc] 48)) := (Below.refl _ _).alloc (Nat.le_refl _) _
      have hT := (Vals.of_own hown).keep hb1
      have hK := hkids.keep hb1
      have ST := Lib.hid (And.intro hT hK)
      clear hT hK hkids
      go_wp2_with fail
      refine (kids_any _ _ (partly ns adr sl (m + 1)) m kids _ ST.out.1 ST.out.2 (partly_isErr ns adr sl (m + 1)) (by omega) hkl).mono ?_
      rintro e w3 ⟨kv3, rfl, hown3, hb3⟩
      have hb4 := hb1.trans (hb3.mono hb1.size)
      have hblk : w3.heap[wr.heap.size]? = some (.cells #[.string kd, .int .i64 key, .string text, .slice KA kids.length kc] 48 (0, 0)) := (hb3.block _ (by simp)).trans (heap_alloc_new wr _)
      have d0 := cell_of_heap hblk 0 rfl
      have d1 := cell_of_heap hblk 1 rfl
      have d2 := cell_of_heap hblk 2 rfl
      have hs3 : wr.heap.size + 1 ≤ w3.heap.size := by have := hb3.size; simpa using this
      have S := Lib.hid (And.intro hown (And.intro hlies (And.intro hbel hb4)))
      have V3 := Lib.hid (Vals.of_own hown3)
      obtain ⟨A3, c3p, hf3, _, _⟩ := (Vals.of_own hown3).form
      have ct := ((own_below hown hb4).cellAt m (by omega))
      rw [partly_get hmn, if_pos (by omega)] at ct
      have cf := (own_below hown hb4).frozenAt m
      clear c0 c1 c2 c3 hb1 hb3 hblk hown hlies hown3 ST hkc hkm hb4
      subst hf3
      simp only [List.length_map] at V3 ⊢
      have ctA : ∀ o, (w3.alloc o).cell? ⟨w.heap.size, m, none⟩ = some .nilIface := fun o => by rw [World.cell?_alloc_lt _ _ _ (by show w.heap.size < w3.heap.size; omega)]; exact ct
      have cfA : ∀ o, (w3.alloc o).frozen? ⟨w.heap.size, m, none⟩ = false := fun o => by rw [World.frozen?_alloc_old _ _ _ (by show w.heap.size ≠ w3.heap.size; omega)]; exact cf
      cases hkd : kindOf kd with
      | none =>
        have hne := kindOf_none hkd
        have n1 := toList_ne (hne .text)
        have n2 := toList_ne (hne .value)
        have n3 := toList_ne (hne .list)
        have n4 := toList_ne (hne .wrap)
        have n5 := toList_ne (hne .many)
        have n6 := toList_ne (hne .join)
        have n7 := toList_ne (hne .alike)
        have n8 := toList_ne (hne .acts)
        clear hne ctA cfA
        have HQ := Lib.hid (show isThere ns m = false by rw [isThere_eq ns m _ HND.out]; simp only [hkd])
        clear hkd
        go_wp2_with fail
        go_roundw
        case rel => exact ⟨m, _, by omega, by omega, rfl, made_skip S.out.1 S.out.2.1 S.out.2.2.1 HND.out S.out.2.2.2 (by omega) HQ.out⟩
        case measure => first | (simp [intOf]; done) | (simp [intOf]; omega)
      | some k =>
        obtain rfl := word_of_kind hkd
        have HKD := Lib.hid hkd
        clear hkd
        cases k
        case text =>
          simp only [K8.word, kText] at *
          have HQ := Lib.hid (show isThere ns m = true by rw [isThere_eq ns m _ HND.out]; simp only [HKD.out])
          go_wp2_with (go_at_call 36; refine (new_any _ _).mono ?_; rintro e w5 ⟨rfl, rfl⟩)
          go_roundw
          case rel =>
            refine ⟨m, _, by omega, by omega, rfl, made_step (sv := .nilIface) S.out.1 S.out.2.1 S.out.2.2.1 HND.out (S.out.2.2.2.alloc (by omega) _) (b := w3.heap.size) (by omega) (by simp) ?_ ?_ ?_⟩
            · intro k h1 h2; rw [HKD.out] at h2; injection h2 with h2; subst h2; exact heap_alloc_new w3 _
            · intro k h1 h2 h3; rw [HKD.out] at h2; injection h2 with h2; subst h2; rcases h3 with h3 | h3 <;> cases h3
            · rw [valOf_there HQ.out HND.out HKD.out, upd_same]; rfl
          case measure => first | (simp [intOf]; done) | (simp [intOf]; omega)
        case value =>
          simp only [K8.word, kValue] at *
          have HQ := Lib.hid (show isThere ns m = true by rw [isThere_eq ns m _ HND.out]; simp only [HKD.out])
          go_wp2_with fail
          go_roundw
          case rel =>
            refine ⟨m, _, by omega, by omega, rfl, made_step (sv := .nilIface) S.out.1 S.out.2.1 S.out.2.2.1 HND.out S.out.2.2.2 (b := wr.heap.size) (by omega) (by omega) ?_ ?_ ?_⟩
            · intro k h1 h2; rw [HKD.out] at h2; injection h2 with h2; subst h2; trivial
            · intro k h1 h2 h3; rw [HKD.out] at h2; injection h2 with h2; subst h2; rcases h3 with h3 | h3 <;> cases h3
            · rw [valOf_there HQ.out HND.out HKD.out]; rfl
          case measure => first | (simp [intOf]; done) | (simp [intOf]; omega)
        case list =>
          simp only [K8.word, kList] at *
          have HQ := Lib.hid (show isThere ns m = true by rw [isThere_eq ns m _ HND.out]; simp only [HKD.out])
          go_wp2_with fail
          go_roundw
          case rel =>
            refine ⟨m, _, by omega, by omega, rfl, made_step (sv := .slice (some ⟨w3.heap.size, 0, none⟩) 1 1) S.out.1 S.out.2.1 S.out.2.2.1 HND.out (S.out.2.2.2.alloc (by omega) _) (b := wr.heap.size) (by omega) (by simp; omega) ?_ ?_ ?_⟩
            · intro k h1 h2; rw [HKD.out] at h2; injection h2 with h2; subst h2; exact ⟨_, rfl⟩
            · intro k h1 h2 h3; rw [HKD.out] at h2; injection h2 with h2; subst h2; rcases h3 with h3 | h3 <;> cases h3
            · rw [valOf_there HQ.out HND.out HKD.out, upd_same, upd_same]; rfl
          case measure => first | (simp [intOf]; done) | (simp [intOf]; omega)
        case wrap =>
          simp only [K8.word, kWrap] at *
          have HQ := Lib.hid (show isThere ns m = true by rw [isThere_eq ns m _ HND.out]; simp only [HKD.out])
          have hkid : (kids.map (pickKid (partly ns adr sl (m + 1)) (m : Int))).headD .nilIface = kidVal ns adr sl m := by
            rw [kids_head]; unfold kidVal; rw [kidsOf_kind HND.out HKD.out]; rfl
          have hcall : ∀ W, Below w3.heap.size w3 W → Calls Tryd.prog 37 #[.slice A3 kids.length c3p] W fun e w' => e = .returned (kidVal ns adr sl m) ∧ W = w' := fun W hW => by
            rw [← hkid]; exact first_any _ _ W (V3.out.keep hW)
          have hX : IsErr (kidVal ns adr sl m) := by
            unfold kidVal
            cases (kidsOf ns m).head? with
            | none => exact .inl rfl
            | some j => exact valOf_isErr ns adr sl j
          have hfin : MadeTo w ns m ((w3.alloc (.cells #[.string text, kidVal ns adr sl m] 83)).setCell ⟨w.heap.size, m, none⟩ (.iface 61 (.pointer (some ⟨w3.heap.size, 0, none⟩)))) := by
            refine made_step (sv := .nilIface) S.out.1 S.out.2.1 S.out.2.2.1 HND.out (S.out.2.2.2.alloc (by omega) _) (b := w3.heap.size) (by omega) (by simp) ?_ ?_ ?_
            · intro k h1 h2; rw [HKD.out] at h2; injection h2 with h2; subst h2; exact heap_alloc_new w3 _
            · intro k h1 h2 h3; rw [HKD.out] at h2; injection h2 with h2; subst h2; rcases h3 with h3 | h3 <;> cases h3
            · rw [valOf_there HQ.out HND.out HKD.out, upd_same]; rfl
          generalize kidVal ns adr sl m = x at *
          have HF := Lib.hid hfin
          have HC := Lib.hid hcall
          clear hkid hcall hfin
          rcases hX with rfl | ⟨t, u, rfl⟩
          all_goals
            go_wp2_with fail
            go_region_with (go_at_call 37; refine (HC.out _ (Below.refl _ _).drew).mono ?_; rintro e w5 ⟨rfl, rfl⟩)
            all_goals go_wp2_with fail
            all_goals
              go_roundw
              case rel => exact ⟨m, _, by omega, by omega, rfl, HF.out.drew⟩
              case measure => first | (simp [intOf]; done) | (simp [intOf]; omega)
        case alike =>
          simp only [K8.word, kAlike] at *
          have HQ := Lib.hid (show isThere ns m = true by rw [isThere_eq ns m _ HND.out]; simp only [HKD.out])
          have hkid : (kids.map (pickKid (partly ns adr sl (m + 1)) (m : Int))).headD .nilIface = kidVal ns adr sl m := by
            rw [kids_head]; unfold kidVal; rw [kidsOf_kind HND.out HKD.out]; rfl
          have hcall : ∀ W, Below w3.heap.size w3 W → Calls Tryd.prog 37 #[.slice A3 kids.length c3p] W fun e w' => e = .returned (kidVal ns adr sl m) ∧ W = w' := fun W hW => by
            rw [← hkid]; exact first_any _ _ W (V3.out.keep hW)
          have hX : IsErr (kidVal ns adr sl m) := by
            unfold kidVal
            cases (kidsOf ns m).head? with
            | none => exact .inl rfl
            | some j => exact valOf_isErr ns adr sl j
          have hfin : MadeTo w ns m ((w3.alloc (.cells #[.int .i64 key, kidVal ns adr sl m] 91)).setCell ⟨w.heap.size, m, none⟩ (.iface 89 (.pointer (some ⟨w3.heap.size, 0, none⟩)))) := by
            refine made_step (sv := .nilIface) S.out.1 S.out.2.1 S.out.2.2.1 HND.out (S.out.2.2.2.alloc (by omega) _) (b := w3.heap.size) (by omega) (by simp) ?_ ?_ ?_
            · intro k h1 h2; rw [HKD.out] at h2; injection h2 with h2; subst h2; exact heap_alloc_new w3 _
            · intro k h1 h2 h3; rw [HKD.out] at h2; injection h2 with h2; subst h2; rcases h3 with h3 | h3 <;> cases h3
            · rw [valOf_there HQ.out HND.out HKD.out, upd_same]; rfl
          generalize kidVal ns adr sl m = x at *
          have HF := Lib.hid hfin
          have HC := Lib.hid hcall
          clear hkid hcall hfin
          rcases hX with rfl | ⟨t, u, rfl⟩
          all_goals
            go_wp2_with fail
            go_region_with (go_at_call 37; refine (HC.out _ (Below.refl _ _).drew).mono ?_; rintro e w5 ⟨rfl, rfl⟩)
            all_goals go_wp2_with fail
            all_goals
              go_roundw
              case rel => exact ⟨m, _, by omega, by omega, rfl, HF.out.drew⟩
              case measure => first | (simp [intOf]; done) | (simp [intOf]; omega)
        case acts =>
          simp only [K8.word, kActs] at *
          have HQ := Lib.hid (show isThere ns m = true by rw [isThere_eq ns m _ HND.out]; simp only [HKD.out])
          have hkid : (kids.map (pickKid (partly ns adr sl (m + 1)) (m : Int))).headD .nilIface = kidVal ns adr sl m := by
            rw [kids_head]; unfold kidVal; rw [kidsOf_kind HND.out HKD.out]; rfl
          have hcall : ∀ W, Below w3.heap.size w3 W → Calls Tryd.prog 37 #[.slice A3 kids.length c3p] W fun e w' => e = .returned (kidVal ns adr sl m) ∧ W = w' := fun W hW => by
            rw [← hkid]; exact first_any _ _ W (V3.out.keep hW)
          have hX : IsErr (kidVal ns adr sl m) := by
            unfold kidVal
            cases (kidsOf ns m).head? with
            | none => exact .inl rfl
            | some j => exact valOf_isErr ns adr sl j
          have hfin : MadeTo w ns m ((w3.alloc (.cells #[.int .i64 key, kidVal ns adr sl m] 93)).setCell ⟨w.heap.size, m, none⟩ (.iface 92 (.pointer (some ⟨w3.heap.size, 0, none⟩)))) := by
            refine made_step (sv := .nilIface) S.out.1 S.out.2.1 S.out.2.2.1 HND.out (S.out.2.2.2.alloc (by omega) _) (b := w3.heap.size) (by omega) (by simp) ?_ ?_ ?_
            · intro k h1 h2; rw [HKD.out] at h2; injection h2 with h2; subst h2; exact heap_alloc_new w3 _
            · intro k h1 h2 h3; rw [HKD.out] at h2; injection h2 with h2; subst h2; rcases h3 with h3 | h3 <;> cases h3
            · rw [valOf_there HQ.out HND.out HKD.out, upd_same]; rfl
          generalize kidVal ns adr sl m = x at *
          have HF := Lib.hid hfin
          have HC := Lib.hid hcall
          clear hkid hcall hfin
          rcases hX with rfl | ⟨t, u, rfl⟩
          all_goals
            go_wp2_with fail
            go_region_with (go_at_call 37; refine (HC.out _ (Below.refl _ _).drew).mono ?_; rintro e w5 ⟨rfl, rfl⟩)
            all_goals go_wp2_with fail
            all_goals
              go_roundw
              case rel => exact ⟨m, _, by omega, by omega, rfl, HF.out.drew⟩
              case measure => first | (simp [intOf]; done) | (simp [intOf]; omega)
        case join =>
          simp only [K8.word, kJoin] at *
          have hth := kids_there ns adr sl m kids
          have hK2 : kidsOf ns m = kids.filterMap (liveKid ns m) := kidsOf_kind HND.out HKD.out
          have hlen : (kids.map (pickKid (partly ns adr sl (m + 1)) (m : Int))).length * 16 ≤ 140737488351232 := by simp; omega
          have hIE : ∀ x ∈ kids.map (pickKid (partly ns adr sl (m + 1)) (m : Int)), IsErr x := by
            intro x hx
            obtain ⟨k, _, rfl⟩ := List.mem_map.1 hx
            exact isErr_pick (partly_isErr ns adr sl (m + 1)) _ _
          have HT := Lib.hid (And.intro hth (And.intro hK2 (And.intro hlen hIE)))
          clear hth hK2 hlen hIE
          go_wp2_with fail
          refine (join_any _ _ _ V3.out HT.out.2.2.2 HT.out.2.2.1).mono ?_
          rintro e w5 ⟨hb5, hj⟩
          have hbW := S.out.2.2.2.trans (hb5.mono S.out.2.2.2.size)
          have ct5 := cell_keep hb5 ct
          have cf5 := (hb5.frozen (p := ⟨w.heap.size, m, none⟩) (lt_of_cell ct)).trans cf
          rcases hj with ⟨h0, rfl⟩ | ⟨h0, g5, sv5, rfl, hg5, hh5, ho5⟩
          · have hQ : isThere ns m = false := by
              have he : kids.filterMap (liveKid ns m) = [] := by
                have := HT.out.1; rw [h0] at this; simpa using this.symm
              rw [isThere_eq ns m _ HND.out]
              simp only [HKD.out]
              rw [Bool.eq_false_iff]
              intro hany
              obtain ⟨x, hx, hs⟩ := List.any_eq_true.1 hany
              obtain ⟨j, hj⟩ := Option.isSome_iff_exists.1 hs
              have : j ∈ kids.filterMap (liveKid ns m) := List.mem_filterMap.2 ⟨x, hx, hj⟩
              rw [he] at this
              simp at this
            have hfin : MadeTo w ns m (w5.setCell ⟨w.heap.size, m, none⟩ .nilIface) := by
              refine made_step (sv := .nilIface) S.out.1 S.out.2.1 S.out.2.2.1 HND.out hbW (b := wr.heap.size) (by omega) (by have := hb5.size; omega) (fun k h => by rw [hQ] at h; cases h) (fun k h => by rw [hQ] at h; cases h) ?_
              rw [valOf_not hQ]
            have HF := Lib.hid hfin
            clear hfin h0 hQ ctA cfA
            go_wp2_with fail
            go_roundw
            case rel => exact ⟨m, _, by omega, by omega, rfl, HF.out⟩
            case measure => first | (simp [intOf]; done) | (simp [intOf]; omega)
          · have hQ : isThere ns m = true := by
              rw [isThere_eq ns m _ HND.out]
              simp only [HKD.out]
              have hne : kids.filterMap (liveKid ns m) ≠ [] := by
                intro he; have := HT.out.1; rw [he] at this; exact h0 this
              obtain ⟨j, hj⟩ := List.exists_mem_of_ne_nil _ hne
              obtain ⟨x, hx, hl⟩ := List.mem_filterMap.1 hj
              exact List.any_eq_true.2 ⟨x, hx, by rw [hl]; rfl⟩
            have hfin : MadeTo w ns m (w5.setCell ⟨w.heap.size, m, none⟩ (.iface 122 (.pointer (some ⟨g5, 0, none⟩)))) := by
              refine made_step (sv := sv5) S.out.1 S.out.2.1 S.out.2.2.1 HND.out hbW (b := g5) (by omega) (lt_of_heap hh5) ?_ ?_ ?_
              · intro k h1 h2; rw [HKD.out] at h2; injection h2 with h2; subst h2; exact hh5
              · intro k h1 h2 h3
                rw [HT.out.2.1]
                have h5 := World.ownsRow.mono_base ho5 (base' := w.heap.size + 1) (by omega)
                rw [HT.out.1, List.length_map] at h5
                exact h5
              · rw [valOf_there hQ HND.out HKD.out, upd_same]; rfl
            have HF := Lib.hid hfin
            clear hfin h0 hQ ctA cfA hh5 ho5
            go_wp2_with fail
            go_roundw
            case rel => exact ⟨m, _, by omega, by omega, rfl, HF.out⟩
            case measure => first | (simp [intOf]; done) | (simp [intOf]; omega)
        case many =>
          simp only [K8.word, kMany] at *
          have HQ := Lib.hid (show isThere ns m = true by rw [isThere_eq ns m _ HND.out]; simp only [HKD.out])
          have hth := kids_there ns adr sl m kids
          have hK2 : kidsOf ns m = kids.filterMap (liveKid ns m) := kidsOf_kind HND.out HKD.out
          have hIE : ∀ x ∈ kids.map (pickKid (partly ns adr sl (m + 1)) (m : Int)), IsErr x := by
            intro x hx
            obtain ⟨k, _, rfl⟩ := List.mem_map.1 hx
            exact isErr_pick (partly_isErr ns adr sl (m + 1)) _ _
          have hcall : ∀ W, Below w3.heap.size w3 W → Calls Tryd.prog 38 #[.slice A3 kids.length c3p] W fun e w' => ∃ A5 c5, e = .returned (.slice A5 (kidsOf ns m).length c5) ∧ Below W.heap.size W w' ∧ w'.ownsRow W.heap.size 54 1 (.slice A5 (kidsOf ns m).length c5) (kidsOf ns m).length ((kidsOf ns m).map (valOf ns adr sl)) := fun W hW => by
            refine (present_any _ _ W (V3.out.keep hW) hIE (by simp; omega)).mono ?_
            rintro e w' ⟨v, rfl, ho, hb⟩
            rw [hth, List.length_map, ← hK2] at ho
            obtain ⟨A5, c5, rfl, _, _⟩ := (Vals.of_own ho).form
            rw [List.length_map] at ho ⊢
            exact ⟨A5, c5, rfl, hb, ho⟩
          have hfin : ∀ w5 A5 c5, Below w3.heap.size w3 w5 → w5.ownsRow w3.heap.size 54 1 (.slice A5 (kidsOf ns m).length c5) (kidsOf ns m).length ((kidsOf ns m).map (valOf ns adr sl)) →
              MadeTo w ns m ((w5.alloc (.cells #[.string text, .slice A5 (kidsOf ns m).length c5] 87)).setCell ⟨w.heap.size, m, none⟩ (.iface 84 (.pointer (some ⟨w5.heap.size, 0, none⟩)))) := by
            intro w5 A5 c5 hb5 ho5
            have hbW := S.out.2.2.2.trans (hb5.mono S.out.2.2.2.size)
            refine made_step (sv := .slice A5 (kidsOf ns m).length c5) S.out.1 S.out.2.1 S.out.2.2.1 HND.out (hbW.alloc hbW.size _) (b := w5.heap.size) hbW.size (by simp) ?_ ?_ ?_
            · intro k h1 h2; rw [HKD.out] at h2; injection h2 with h2; subst h2; exact heap_alloc_new w5 _
            · intro k h1 h2 h3
              exact (World.ownsRow.mono_base ho5 (base' := w.heap.size + 1) (by omega)).alloc _
            · rw [valOf_there HQ.out HND.out HKD.out, upd_same]; rfl
          generalize (kidsOf ns m).map (valOf ns adr sl) = ys at *
          generalize (kidsOf ns m).length = yn at *
          have HC := Lib.hid hcall
          have HF := Lib.hid hfin
          clear hth hK2 hIE hcall hfin
          go_wp2_with fail
          go_region_with (go_at_call 38; refine (HC.out _ (Below.refl _ _).drew).mono ?_; rintro e w5 ⟨A5, c5, rfl, hb5, ho5⟩; have hb6 : Below w3.heap.size w3 w5 := (Below.refl w3.heap.size w3).drew.trans hb5; have d25 := cell_keep hb6 d2; have ctA5 : ∀ o, (w5.alloc o).cell? ⟨w.heap.size, m, none⟩ = some .nilIface := (fun o => by rw [World.cell?_alloc_lt _ _ _ (by show w.heap.size < w5.heap.size; have := hb6.size; omega)]; exact cell_keep hb6 ct); have cfA5 : ∀ o, (w5.alloc o).frozen? ⟨w.heap.size, m, none⟩ = false := (fun o => by rw [World.frozen?_alloc_old _ _ _ (by show w.heap.size ≠ w5.heap.size; have := hb6.size; omega)]; exact (hb6.frozen (p := ⟨w.heap.size, m, none⟩) (lt_of_cell ct)).trans cf); have HF5 := Lib.hid (HF.out w5 A5 c5 hb6 ho5); clear hb5 ho5 hb6)
          all_goals go_wp2_with fail
          all_goals
            go_roundw
            case rel => exact ⟨m, _, by omega, by omega, rfl, HF5.out⟩
            case measure => first | (simp [intOf]; done) | (simp [intOf]; omega)

/-- What made leaves. -/
theorem made_any (v : Value) (ns : List Nd) (kv : Nat → Value) (w : World) (h : Nodes w v ns kv) (hn : ns.length ≤ 68719476736) (hk : ∀ nd ∈ ns, nd.kids.length ≤ 68719476736) :
    Calls Tryd.prog 24 #[v] w fun e w' => ∃ tv adr sl base, e = .returned tv ∧ Vals w' tv ((List.range ns.length).map (valOf ns adr sl)) ∧ Lies w' ns adr sl base 0 ∧ w.heap.size ≤ base ∧ Below w.heap.size w w' := by
  refine (made_loop v ns kv w h hn hk).mono ?_
  rintro e w' ⟨rfl, adr, sl, h1, h2, h3⟩
  refine ⟨_, adr, sl, w.heap.size + 1, rfl, ?_, h2, by omega, h3⟩
  rw [← partly_all]
  exact Vals.of_own h1
end Go.Proofs.YtccoeajjomfmnaaDoor
