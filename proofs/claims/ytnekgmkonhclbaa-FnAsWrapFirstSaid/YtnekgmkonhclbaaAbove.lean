/-
  The contract of laws.above, with no further kid and with one.
  Conditions: at most 2^20 nodes with at most 2^20 kids each.
-/
import Derived.Test.YtnekgmkonhclbaaOwnN
import Derived.Laws.AppendOwnNone
namespace Go.Proofs.Ytnekgmkonhclbaa
open Go.RowKit Go.Lib

set_option maxRecDepth 100000 in
set_option maxHeartbeats 4000000 in
theorem above_none (kind : ByteArray) (v : Value) (ns : List Nd) (kv : Nat → Value) (w : World) (h : Nodes w v ns kv) (hn : ns.length ≤ 1048576) (hk : ∀ nd ∈ ns, nd.kids.length ≤ 1048576) :
    Calls Try.prog 16 #[.string kind, v, .slice none 0 0] w fun e w' => ∃ v' kv', e = .returned v' ∧ OwnN w.heap.size w' v' (aboveN kind ns []) kv' ∧ Below w.heap.size w w' := by
  obtain ⟨A, cap, rfl, _, hcm⟩ := h.form
  simp only [maxLen] at hcm
  have HN := Lib.hid h
  have HK := Lib.hid hk
  clear h hk
  obtain ⟨i0, z0, hi0, hz0, _, _, _⟩ := elemInts.2.2.2
  have hown1 := World.ownsRow_lit (base := w.heap.size) (e := 3) (size := 1) w #[.int .i64 1] 1 (Nat.le_refl _) (by simp [maxLen]) (by simp)
  go_enter Try.func16, Try.ntmps16
  go_wp2_with (at_builtin; refine wpList_append_own_none rfl _ _ _ rfl w.heap.size 3 i0 1 Try.underlying45 hi0 _ 1 [.int .i64 1] rfl hown1 rfl ?_)
  have hS0 : OwnN w.heap.size ((w.alloc (.cells #[.int .i64 1] 3)).alloc (.cells #[.string kind, .int .i64 9, .string kAbove, .slice (some ⟨w.heap.size, 0, none⟩) 1 1] 50)) (.slice (some ⟨w.heap.size + 1, 0, none⟩) 1 1) [⟨kind, 9, kAbove, [1]⟩] (fun _ => .slice (some ⟨w.heap.size, 0, none⟩) 1 1) := by
    refine ⟨?_, fun i nd hi => ?_⟩
    · have := World.ownsRow_lit (base := w.heap.size) (e := 50) (size := 4) (w.alloc (.cells #[.int .i64 1] 3)) #[.string kind, .int .i64 9, .string kAbove, .slice (some ⟨w.heap.size, 0, none⟩) 1 1] 1 (by simp) (by simp [maxLen]) (by simp)
      simpa [nodesCells, ndCells] using this
    · cases i with
      | zero =>
        simp only [List.getElem?_cons_zero, Option.some.injEq] at hi
        subst hi
        exact hown1.alloc _
      | succ i => simp at hi
  have hB0 : Below w.heap.size w ((w.alloc (.cells #[.int .i64 1] 3)).alloc (.cells #[.string kind, .int .i64 9, .string kAbove, .slice (some ⟨w.heap.size, 0, none⟩) 1 1] 50)) := below_after (below_alloc _ _) (below_alloc _ _)
  have S0 := Lib.hid (And.intro hS0 hB0)
  clear hS0 hB0 hown1 hi0 hz0
  simp only [kAbove] at S0 ⊢
  go_loopw [7, 21] (fun vo vc wr => ∃ (c g cp : Nat) (kv' : Nat → Value), c ≤ ns.length ∧ vc = .int .i64 c ∧ vo = .slice (some ⟨g, 0, none⟩) (1 + c) cp ∧ OwnN w.heap.size wr (.slice (some ⟨g, 0, none⟩) (1 + c) cp) ([(⟨kind, 9, kAbove, 1 :: []⟩ : Nd)] ++ (ns.take c).map (upNd 1)) kv' ∧ Below w.heap.size w wr) (fun _ vc _ => ns.length - (intOf vc).toNat)
  case atStart => exact ⟨0, w.heap.size + 1, 1, _, Nat.zero_le _, rfl, rfl, S0.out.1, S0.out.2⟩
  case round =>
    obtain ⟨c, g, cp, kv', hc, rfl, rfl, hN, hbel⟩ := hrel
    clear S0
    have hs1 := hbel.size
    obtain ⟨wo, rfl⟩ : ∃ wo : World, wo = wr := ⟨_, rfl⟩
    by_cases hlt : c < ns.length
    · have hnd : ns[c]? = some ns[c] := List.getElem?_eq_getElem hlt
      obtain ⟨b, off, KA, kc, rfl, hkv, n0, n1, n2, n3, hkl, hkm⟩ := (HN.out.keep hbel).at hnd
      have hki : Ints wo (.slice KA ns[c].kids.length kc) ns[c].kids := by have := ((HN.out.keep hbel).2 c _ hnd); rw [hkv] at this; exact this
      have HS := Lib.hid (map_take_succ (upNd 1) ns c hlt)
      have hksm := HK.out ns[c] (List.getElem_mem hlt)
      have HL := Lib.hid (show ([(⟨kind, 9, kAbove, 1 :: []⟩ : Nd)] ++ (ns.take c).map (upNd 1)).length = 1 + c by simp; omega)
      clear hkv hnd
      generalize ns[c] = nd at *
      obtain ⟨kd, key, tx, kids⟩ := nd
      dsimp only at n0 n1 n2 n3 hkl hki hksm
      simp only [maxLen] at hkm
      have H0 := Lib.hid (And.intro hki (And.intro hN hbel))
      clear hki hN hbel
      go_wp2_with fail
      have hin0 : ((wo.alloc (.cells #[.string kd, .int .i64 key, .string tx, .slice KA kids.length kc] 50)).alloc (.cells #[] 3)).ownsRow wo.heap.size 3 1 (.slice (some ⟨wo.heap.size + 1, 0, none⟩) 0 0) 0 [] := by
        have := World.ownsRow_lit (base := wo.heap.size) (e := 3) (size := 1) (wo.alloc (.cells #[.string kd, .int .i64 key, .string tx, .slice KA kids.length kc] 50)) #[] 0 (by simp) (by simp [maxLen]) (by simp)
        simpa using this
      have hbx0 := heap_keep (below_alloc (wo.alloc (.cells #[.string kd, .int .i64 key, .string tx, .slice KA kids.length kc] 50)) (.cells #[] 3)) (heap_alloc_new wo _)
      have hbel0 : Below wo.heap.size wo ((wo.alloc (.cells #[.string kd, .int .i64 key, .string tx, .slice KA kids.length kc] 50)).alloc (.cells #[] 3)) := below_after (below_alloc _ _) (below_alloc _ _)
      have I0 := Lib.hid (And.intro hin0 (And.intro hbx0 hbel0))
      clear hin0 hbx0 hbel0 n0 n1 n2 n3
      go_loopw [10, 29] (fun vl vi wr => ∃ c2 g2 cp2 : Nat, c2 ≤ kids.length ∧ vi = .int .i64 c2 ∧ vl = .slice (some ⟨g2, 0, none⟩) ((kids.take c2).flatMap (upKid 1)).length cp2 ∧ wr.ownsRow wo.heap.size 3 1 (.slice (some ⟨g2, 0, none⟩) ((kids.take c2).flatMap (upKid 1)).length cp2) ((kids.take c2).flatMap (upKid 1)).length (((kids.take c2).flatMap (upKid 1)).map (.int .i64)) ∧ Below wo.heap.size wo wr ∧ wr.heap[wo.heap.size]? = some (.cells #[.string kd, .int .i64 key, .string tx, .slice KA kids.length kc] 50 (0, 0))) (fun _ vi _ => kids.length - (intOf vi).toNat)
      case atStart => exact ⟨0, wo.heap.size + 1, 0, Nat.zero_le _, rfl, rfl, I0.out.1, I0.out.2.2, I0.out.2.1⟩
      case round =>
        obtain ⟨c2, g2, cp2, hc2, rfl, rfl, hown, hb2, hbx⟩ := hrel
        clear I0
        have hs2 := hb2.size
        by_cases hl2 : c2 < kids.length
        · obtain ⟨b', off', rfl, k0⟩ := Vals.at (k := c2) (x := .int .i64 kids[c2]) (Vals.keep H0.out.1 hb2) (by simp [hl2])
          have HF := Lib.hid (flat_step (upKid 1) kids c2 hl2)
          have hle := flat_take_le (upKid 1) (fun x => upKid_one 1 x) kids c2
          obtain ⟨d0, d1, d2, d3⟩ := box4 hbx
          have hne := own_ne hown hbx (by decide)
          have HX := Lib.hid (And.intro hbx (And.intro hb2 hne))
          generalize kids[c2] = q at *
          generalize (kids.take c2).flatMap (upKid 1) = L at *
          clear hbx hne hb2
          by_cases h1 : q < 1073741824
          · by_cases h0 : 0 ≤ q
            · have HF2 := Lib.hid (show (kids.take (c2 + 1)).flatMap (upKid 1) = L ++ [q + 1] by rw [HF.out, upKid, if_pos ⟨h1, h0⟩])
              have e0 : decide (q < 1073741824) = true := by simpa using h1
              go_wp2_with (at_builtin; refine wpList_push rfl (.tmp 39) (.tmp 42) _ rfl elemInts rfl hown rfl rfl rfl (by simp [Value.oneCell']) (by omega) (by omega) ?_; intro g' cp' w' hown' hbel' hgr' hlt' hat')
              go_roundw
              case rel =>
                have hbx' := (hgr'.block wo.heap.size (lt_of_heap HX.out.1) (fun e => HX.out.2.2 e.symm)).trans HX.out.1
                first | exact ⟨c2 + 1, g', cp', hl2, by go_num, by rw [HF2.out]; simp, by rw [HF2.out]; simpa using hown', HX.out.2.1.trans hbel', hbx'⟩ | ((repeat apply Exists.intro); refine ⟨?_, ?_⟩; rotate_left; (repeat' (first | rfl | apply And.intro)); first | exact ⟨c2 + 1, g', cp', hl2, by go_num, by rw [HF2.out]; simp, by rw [HF2.out]; simpa using hown', HX.out.2.1.trans hbel', hbx'⟩ | exact ⟨c2 + 1, hl2, by go_num, g', cp', by rw [HF2.out]; simp, by rw [HF2.out]; simpa using hown', HX.out.2.1.trans hbel', hbx'⟩)
              case measure => simp [intOf]; omega
            · have HF2 := Lib.hid (show (kids.take (c2 + 1)).flatMap (upKid 1) = L by rw [HF.out, upKid, if_neg (fun h => h0 h.2), List.append_nil])
              have e0 : decide (q < 1073741824) = true := by simpa using h1
              have e1 : decide (0 ≤ q) = false := by simpa using h0
              go_wp2_with fail
              go_roundw
              case rel => first | exact ⟨c2 + 1, g2, cp2, hl2, by go_num, by rw [HF2.out], by rw [HF2.out]; exact hown, HX.out.2.1, HX.out.1⟩ | ((repeat apply Exists.intro); refine ⟨?_, ?_⟩; rotate_left; (repeat' (first | rfl | apply And.intro)); first | exact ⟨c2 + 1, g2, cp2, hl2, by go_num, by rw [HF2.out], by rw [HF2.out]; exact hown, HX.out.2.1, HX.out.1⟩ | exact ⟨c2 + 1, hl2, by go_num, g2, cp2, by rw [HF2.out], by rw [HF2.out]; exact hown, HX.out.2.1, HX.out.1⟩)
              case measure => simp [intOf]; omega
          · have HF2 := Lib.hid (show (kids.take (c2 + 1)).flatMap (upKid 1) = L by rw [HF.out, upKid, if_neg (fun h => h1 h.1), List.append_nil])
            have e0 : decide (q < 1073741824) = false := by simpa using h1
            go_wp2_with fail
            go_roundw
            case rel => first | exact ⟨c2 + 1, g2, cp2, hl2, by go_num, by rw [HF2.out], by rw [HF2.out]; exact hown, HX.out.2.1, HX.out.1⟩ | ((repeat apply Exists.intro); refine ⟨?_, ?_⟩; rotate_left; (repeat' (first | rfl | apply And.intro)); first | exact ⟨c2 + 1, g2, cp2, hl2, by go_num, by rw [HF2.out], by rw [HF2.out]; exact hown, HX.out.2.1, HX.out.1⟩ | exact ⟨c2 + 1, hl2, by go_num, g2, cp2, by rw [HF2.out], by rw [HF2.out]; exact hown, HX.out.2.1, HX.out.1⟩)
            case measure => simp [intOf]; omega
        · obtain rfl : c2 = kids.length := by omega
          rw [List.take_length] at hown
          have hle := flat_le (upKid 1) (fun x => upKid_one 1 x) kids
          obtain ⟨d0, d1, d2, d3⟩ := box4 hbx
          have hNr := H0.out.2.1.keep hb2
          have hrw := hNr.row
          rw [HL.out] at hrw
          have S2 := Lib.hid (And.intro hNr (And.intro hown hb2))
          rw [List.take_length]
          clear hown hNr hbx
          generalize hM : kids.flatMap (upKid 1) = M at *
          have HM := Lib.hid (show (upNd 1) ⟨kd, key, tx, kids⟩ = ⟨kd, key, tx, M⟩ by rw [← hM]; rfl)
          clear hM
          go_wp2_with (at_builtin; refine wpList_push rfl _ _ _ rfl elemImplNode rfl hrw rfl rfl rfl (by simp [Value.oneCell']) (by omega) (by omega) ?_; intro g' cp' w3 hown3 hbel3 hgr3 hlt3 hat3)
          go_roundw
          case rel =>
            have hp := OwnN.pushed (v' := .slice (some ⟨g', 0, none⟩) (1 + c + 1) cp') (nd := ⟨kd, key, tx, M⟩) S2.out.1 (by rw [HL.out]; exact hown3) hgr3 (World.ownsRow.mono_base S2.out.2.1 hs1)
            rw [List.append_assoc, ← HM.out, ← HS.out] at hp
            have hB := (H0.out.2.2.trans (S2.out.2.2.mono H0.out.2.2.size)).trans hbel3
            first | exact ⟨c + 1, g', cp', _, hlt, by go_num, by rw [Nat.add_assoc], by rw [← Nat.add_assoc]; exact hp, hB⟩ | ((repeat apply Exists.intro); refine ⟨?_, ?_⟩; rotate_left; (repeat' (first | rfl | apply And.intro)); first | exact ⟨c + 1, g', cp', _, hlt, by go_num, by rw [Nat.add_assoc], by rw [← Nat.add_assoc]; exact hp, hB⟩ | exact ⟨c + 1, hlt, by go_num, g', cp', by rw [Nat.add_assoc], _, by rw [← Nat.add_assoc]; exact hp, hB⟩)
          case measure => simp [intOf]; omega
    · obtain rfl : c = ns.length := by omega
      rw [List.take_length] at hN
      have S := Lib.hid (And.intro hN hbel)
      clear hN hbel
      go_wp2_with fail
      go_ret
      refine ⟨_, kv', rfl, ?_, S.out.2⟩
      have := S.out.1
      simpa [aboveN] using this

set_option maxRecDepth 100000 in
set_option maxHeartbeats 4000000 in
theorem above_one (kind : ByteArray) (v : Value) (ns : List Nd) (kv : Nat → Value) (xv : Value) (x : Int) (w : World) (h : Nodes w v ns kv) (hn : ns.length ≤ 1048576) (hk : ∀ nd ∈ ns, nd.kids.length ≤ 1048576) (hx : Vals w xv [.int .i64 x]) :
    Calls Try.prog 16 #[.string kind, v, xv] w fun e w' => ∃ v' kv', e = .returned v' ∧ OwnN w.heap.size w' v' (aboveN kind ns [x]) kv' ∧ Below w.heap.size w w' := by
  obtain ⟨A, cap, rfl, _, hcm⟩ := h.form
  simp only [maxLen] at hcm
  have HN := Lib.hid h
  have HK := Lib.hid hk
  clear h hk
  have hown1 := World.ownsRow_lit (base := w.heap.size) (e := 3) (size := 1) w #[.int .i64 1] 1 (Nat.le_refl _) (by simp [maxLen]) (by simp)
  obtain ⟨XA, xc, rfl, _, _⟩ := hx.form
  simp only [List.length_singleton] at *
  obtain ⟨xb, xo, rfl, hx0⟩ := hx.at (k := 0) (x := .int .i64 x) rfl
  have hxA : ∀ (j : Nat) (u : Value), [Value.int .i64 x][j]? = some u → (w.alloc (.cells #[.int .i64 1] 3)).cell? ⟨xb, xo + j, none⟩ = some u := by
    intro j u hu
    cases j with
    | zero =>
      simp only [List.getElem?_cons_zero, Option.some.injEq] at hu
      subst hu
      exact cell_keep (below_alloc _ _) hx0
    | succ j => simp at hu
  clear hx hx0
  go_enter Try.func16, Try.ntmps16
  go_wp2_with (at_builtin; refine wpList_spread rfl _ _ _ rfl elemInts rfl hown1 rfl rfl hxA (by simp [Value.oneCell']) (by omega) (by omega) (by simp) ?_; intro gx cx wx hownx hbelx hgrx hltx hatx)
  have hBx : Below w.heap.size w wx := (below_alloc _ _).trans hbelx
  have hS0 : OwnN w.heap.size (wx.alloc (.cells #[.string kind, .int .i64 9, .string kAbove, .slice (some ⟨gx, 0, none⟩) 2 cx] 50)) (.slice (some ⟨wx.heap.size, 0, none⟩) 1 1) [⟨kind, 9, kAbove, [1, x]⟩] (fun _ => .slice (some ⟨gx, 0, none⟩) 2 cx) := by
    refine ⟨?_, fun i nd hi => ?_⟩
    · have := World.ownsRow_lit (base := w.heap.size) (e := 50) (size := 4) wx #[.string kind, .int .i64 9, .string kAbove, .slice (some ⟨gx, 0, none⟩) 2 cx] 1 hBx.size (by simp [maxLen]) (by simp)
      simpa [nodesCells, ndCells] using this
    · cases i with
      | zero =>
        simp only [List.getElem?_cons_zero, Option.some.injEq] at hi
        subst hi
        exact hownx.alloc _
      | succ i => simp at hi
  have S0 := Lib.hid (And.intro hS0 (hBx.alloc hBx.size (.cells #[.string kind, .int .i64 9, .string kAbove, .slice (some ⟨gx, 0, none⟩) 2 cx] 50)))
  clear hS0 hBx hown1 hownx hbelx hgrx hltx hatx hxA
  simp only [kAbove] at S0 ⊢
  go_loopw [7, 21] (fun vo vc wr => ∃ (c g cp : Nat) (kv' : Nat → Value), c ≤ ns.length ∧ vc = .int .i64 c ∧ vo = .slice (some ⟨g, 0, none⟩) (1 + c) cp ∧ OwnN w.heap.size wr (.slice (some ⟨g, 0, none⟩) (1 + c) cp) ([(⟨kind, 9, kAbove, 1 :: [x]⟩ : Nd)] ++ (ns.take c).map (upNd 1)) kv' ∧ Below w.heap.size w wr) (fun _ vc _ => ns.length - (intOf vc).toNat)
  case atStart => exact ⟨0, wx.heap.size, 1, _, Nat.zero_le _, rfl, rfl, S0.out.1, S0.out.2⟩
  case round =>
    obtain ⟨c, g, cp, kv', hc, rfl, rfl, hN, hbel⟩ := hrel
    clear S0
    have hs1 := hbel.size
    obtain ⟨wo, rfl⟩ : ∃ wo : World, wo = wr := ⟨_, rfl⟩
    by_cases hlt : c < ns.length
    · have hnd : ns[c]? = some ns[c] := List.getElem?_eq_getElem hlt
      obtain ⟨b, off, KA, kc, rfl, hkv, n0, n1, n2, n3, hkl, hkm⟩ := (HN.out.keep hbel).at hnd
      have hki : Ints wo (.slice KA ns[c].kids.length kc) ns[c].kids := by have := ((HN.out.keep hbel).2 c _ hnd); rw [hkv] at this; exact this
      have HS := Lib.hid (map_take_succ (upNd 1) ns c hlt)
      have hksm := HK.out ns[c] (List.getElem_mem hlt)
      have HL := Lib.hid (show ([(⟨kind, 9, kAbove, 1 :: [x]⟩ : Nd)] ++ (ns.take c).map (upNd 1)).length = 1 + c by simp; omega)
      clear hkv hnd
      generalize ns[c] = nd at *
      obtain ⟨kd, key, tx, kids⟩ := nd
      dsimp only at n0 n1 n2 n3 hkl hki hksm
      simp only [maxLen] at hkm
      have H0 := Lib.hid (And.intro hki (And.intro hN hbel))
      clear hki hN hbel
      go_wp2_with fail
      have hin0 : ((wo.alloc (.cells #[.string kd, .int .i64 key, .string tx, .slice KA kids.length kc] 50)).alloc (.cells #[] 3)).ownsRow wo.heap.size 3 1 (.slice (some ⟨wo.heap.size + 1, 0, none⟩) 0 0) 0 [] := by
        have := World.ownsRow_lit (base := wo.heap.size) (e := 3) (size := 1) (wo.alloc (.cells #[.string kd, .int .i64 key, .string tx, .slice KA kids.length kc] 50)) #[] 0 (by simp) (by simp [maxLen]) (by simp)
        simpa using this
      have hbx0 := heap_keep (below_alloc (wo.alloc (.cells #[.string kd, .int .i64 key, .string tx, .slice KA kids.length kc] 50)) (.cells #[] 3)) (heap_alloc_new wo _)
      have hbel0 : Below wo.heap.size wo ((wo.alloc (.cells #[.string kd, .int .i64 key, .string tx, .slice KA kids.length kc] 50)).alloc (.cells #[] 3)) := below_after (below_alloc _ _) (below_alloc _ _)
      have I0 := Lib.hid (And.intro hin0 (And.intro hbx0 hbel0))
      clear hin0 hbx0 hbel0 n0 n1 n2 n3
      go_loopw [10, 29] (fun vl vi wr => ∃ c2 g2 cp2 : Nat, c2 ≤ kids.length ∧ vi = .int .i64 c2 ∧ vl = .slice (some ⟨g2, 0, none⟩) ((kids.take c2).flatMap (upKid 1)).length cp2 ∧ wr.ownsRow wo.heap.size 3 1 (.slice (some ⟨g2, 0, none⟩) ((kids.take c2).flatMap (upKid 1)).length cp2) ((kids.take c2).flatMap (upKid 1)).length (((kids.take c2).flatMap (upKid 1)).map (.int .i64)) ∧ Below wo.heap.size wo wr ∧ wr.heap[wo.heap.size]? = some (.cells #[.string kd, .int .i64 key, .string tx, .slice KA kids.length kc] 50 (0, 0))) (fun _ vi _ => kids.length - (intOf vi).toNat)
      case atStart => exact ⟨0, wo.heap.size + 1, 0, Nat.zero_le _, rfl, rfl, I0.out.1, I0.out.2.2, I0.out.2.1⟩
      case round =>
        obtain ⟨c2, g2, cp2, hc2, rfl, rfl, hown, hb2, hbx⟩ := hrel
        clear I0
        have hs2 := hb2.size
        by_cases hl2 : c2 < kids.length
        · obtain ⟨b', off', rfl, k0⟩ := Vals.at (k := c2) (x := .int .i64 kids[c2]) (Vals.keep H0.out.1 hb2) (by simp [hl2])
          have HF := Lib.hid (flat_step (upKid 1) kids c2 hl2)
          have hle := flat_take_le (upKid 1) (fun x => upKid_one 1 x) kids c2
          obtain ⟨d0, d1, d2, d3⟩ := box4 hbx
          have hne := own_ne hown hbx (by decide)
          have HX := Lib.hid (And.intro hbx (And.intro hb2 hne))
          generalize kids[c2] = q at *
          generalize (kids.take c2).flatMap (upKid 1) = L at *
          clear hbx hne hb2
          by_cases h1 : q < 1073741824
          · by_cases h0 : 0 ≤ q
            · have HF2 := Lib.hid (show (kids.take (c2 + 1)).flatMap (upKid 1) = L ++ [q + 1] by rw [HF.out, upKid, if_pos ⟨h1, h0⟩])
              have e0 : decide (q < 1073741824) = true := by simpa using h1
              go_wp2_with (at_builtin; refine wpList_push rfl (.tmp 39) (.tmp 42) _ rfl elemInts rfl hown rfl rfl rfl (by simp [Value.oneCell']) (by omega) (by omega) ?_; intro g' cp' w' hown' hbel' hgr' hlt' hat')
              go_roundw
              case rel =>
                have hbx' := (hgr'.block wo.heap.size (lt_of_heap HX.out.1) (fun e => HX.out.2.2 e.symm)).trans HX.out.1
                first | exact ⟨c2 + 1, g', cp', hl2, by go_num, by rw [HF2.out]; simp, by rw [HF2.out]; simpa using hown', HX.out.2.1.trans hbel', hbx'⟩ | ((repeat apply Exists.intro); refine ⟨?_, ?_⟩; rotate_left; (repeat' (first | rfl | apply And.intro)); first | exact ⟨c2 + 1, g', cp', hl2, by go_num, by rw [HF2.out]; simp, by rw [HF2.out]; simpa using hown', HX.out.2.1.trans hbel', hbx'⟩ | exact ⟨c2 + 1, hl2, by go_num, g', cp', by rw [HF2.out]; simp, by rw [HF2.out]; simpa using hown', HX.out.2.1.trans hbel', hbx'⟩)
              case measure => simp [intOf]; omega
            · have HF2 := Lib.hid (show (kids.take (c2 + 1)).flatMap (upKid 1) = L by rw [HF.out, upKid, if_neg (fun h => h0 h.2), List.append_nil])
              have e0 : decide (q < 1073741824) = true := by simpa using h1
              have e1 : decide (0 ≤ q) = false := by simpa using h0
              go_wp2_with fail
              go_roundw
              case rel => first | exact ⟨c2 + 1, g2, cp2, hl2, by go_num, by rw [HF2.out], by rw [HF2.out]; exact hown, HX.out.2.1, HX.out.1⟩ | ((repeat apply Exists.intro); refine ⟨?_, ?_⟩; rotate_left; (repeat' (first | rfl | apply And.intro)); first | exact ⟨c2 + 1, g2, cp2, hl2, by go_num, by rw [HF2.out], by rw [HF2.out]; exact hown, HX.out.2.1, HX.out.1⟩ | exact ⟨c2 + 1, hl2, by go_num, g2, cp2, by rw [HF2.out], by rw [HF2.out]; exact hown, HX.out.2.1, HX.out.1⟩)
              case measure => simp [intOf]; omega
          · have HF2 := Lib.hid (show (kids.take (c2 + 1)).flatMap (upKid 1) = L by rw [HF.out, upKid, if_neg (fun h => h1 h.1), List.append_nil])
            have e0 : decide (q < 1073741824) = false := by simpa using h1
            go_wp2_with fail
            go_roundw
            case rel => first | exact ⟨c2 + 1, g2, cp2, hl2, by go_num, by rw [HF2.out], by rw [HF2.out]; exact hown, HX.out.2.1, HX.out.1⟩ | ((repeat apply Exists.intro); refine ⟨?_, ?_⟩; rotate_left; (repeat' (first | rfl | apply And.intro)); first | exact ⟨c2 + 1, g2, cp2, hl2, by go_num, by rw [HF2.out], by rw [HF2.out]; exact hown, HX.out.2.1, HX.out.1⟩ | exact ⟨c2 + 1, hl2, by go_num, g2, cp2, by rw [HF2.out], by rw [HF2.out]; exact hown, HX.out.2.1, HX.out.1⟩)
            case measure => simp [intOf]; omega
        · obtain rfl : c2 = kids.length := by omega
          rw [List.take_length] at hown
          have hle := flat_le (upKid 1) (fun x => upKid_one 1 x) kids
          obtain ⟨d0, d1, d2, d3⟩ := box4 hbx
          have hNr := H0.out.2.1.keep hb2
          have hrw := hNr.row
          rw [HL.out] at hrw
          have S2 := Lib.hid (And.intro hNr (And.intro hown hb2))
          rw [List.take_length]
          clear hown hNr hbx
          generalize hM : kids.flatMap (upKid 1) = M at *
          have HM := Lib.hid (show (upNd 1) ⟨kd, key, tx, kids⟩ = ⟨kd, key, tx, M⟩ by rw [← hM]; rfl)
          clear hM
          go_wp2_with (at_builtin; refine wpList_push rfl _ _ _ rfl elemImplNode rfl hrw rfl rfl rfl (by simp [Value.oneCell']) (by omega) (by omega) ?_; intro g' cp' w3 hown3 hbel3 hgr3 hlt3 hat3)
          go_roundw
          case rel =>
            have hp := OwnN.pushed (v' := .slice (some ⟨g', 0, none⟩) (1 + c + 1) cp') (nd := ⟨kd, key, tx, M⟩) S2.out.1 (by rw [HL.out]; exact hown3) hgr3 (World.ownsRow.mono_base S2.out.2.1 hs1)
            rw [List.append_assoc, ← HM.out, ← HS.out] at hp
            have hB := (H0.out.2.2.trans (S2.out.2.2.mono H0.out.2.2.size)).trans hbel3
            first | exact ⟨c + 1, g', cp', _, hlt, by go_num, by rw [Nat.add_assoc], by rw [← Nat.add_assoc]; exact hp, hB⟩ | ((repeat apply Exists.intro); refine ⟨?_, ?_⟩; rotate_left; (repeat' (first | rfl | apply And.intro)); first | exact ⟨c + 1, g', cp', _, hlt, by go_num, by rw [Nat.add_assoc], by rw [← Nat.add_assoc]; exact hp, hB⟩ | exact ⟨c + 1, hlt, by go_num, g', cp', by rw [Nat.add_assoc], _, by rw [← Nat.add_assoc]; exact hp, hB⟩)
          case measure => simp [intOf]; omega
    · obtain rfl : c = ns.length := by omega
      rw [List.take_length] at hN
      have S := Lib.hid (And.intro hN hbel)
      clear hN hbel
      go_wp2_with fail
      go_ret
      refine ⟨_, kv', rfl, ?_, S.out.2⟩
      have := S.out.1
      simpa [aboveN] using this
end Go.Proofs.Ytnekgmkonhclbaa
