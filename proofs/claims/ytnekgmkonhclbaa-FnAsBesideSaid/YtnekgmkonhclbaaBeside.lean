/-
  The contract of laws.beside.
  Conditions: at most 2^20 nodes with at most 2^20 kids each.
-/
import Derived.Test.YtnekgmkonhclbaaCut
import Derived.Test.YtnekgmkonhclbaaAbove
import Derived.Outline
namespace Go.Proofs.Ytnekgmkonhclbaa
open Go.RowKit Go.Lib

set_option maxRecDepth 100000 in
set_option maxHeartbeats 8000000 in
theorem beside_any (va v : Value) (a ns : List Nd) (kva kv : Nat → Value) (w : World) (ha : Nodes w va a kva) (h : Nodes w v ns kv) (hla : a.length ≤ 1048576) (hn : ns.length ≤ 1048576) (hka : ∀ nd ∈ a, nd.kids.length ≤ 1048576) (hk : ∀ nd ∈ ns, nd.kids.length ≤ 1048576) :
    Calls Try.prog 15 #[va, v] w fun e w' => ∃ v' kv', e = .returned v' ∧ OwnN w.heap.size w' v' (besideN a ns) kv' ∧ Below w.heap.size w w' := by
  obtain ⟨A, cap, rfl, _, hcm⟩ := h.form
  obtain ⟨AA, capA, rfl, _, hcmA⟩ := ha.form
  simp only [maxLen] at hcm hcmA
  have HN := Lib.hid h
  have HK := Lib.hid hk
  have HA := Lib.hid ha
  have HKa := Lib.hid hka
  have hlaN := hla
  generalize hL : a.length = la at *
  have HLA := Lib.hid hL
  clear h hk ha hka hL
  go_enter Try.func15, Try.ntmps15
  go_wp2_with fail
  go_loopw [5, 15] (fun vo vc wr => ∃ (c g cp : Nat) (kv' : Nat → Value), c ≤ ns.length ∧ vc = .int .i64 c ∧ vo = .slice (some ⟨g, 0, none⟩) (c) cp ∧ OwnN w.heap.size wr (.slice (some ⟨g, 0, none⟩) (c) cp) (([] : List Nd) ++ (ns.take c).map (upNd (1 + (la : Int)))) kv' ∧ Below w.heap.size w wr) (fun _ vc _ => ns.length - (intOf vc).toNat)
  case atStart => exact ⟨0, w.heap.size, 0, fun _ => .nilIface, Nat.zero_le _, rfl, rfl, ⟨World.ownsRow_lit w #[] 0 (Nat.le_refl _) (by simp [maxLen]) (by simp), fun i nd h => by simp at h⟩, (Below.refl _ _).alloc (Nat.le_refl _) _⟩
  case round =>
    obtain ⟨c, g, cp, kv', hc, rfl, rfl, hN, hbel⟩ := hrel
    have hs1 := hbel.size
    obtain ⟨wo, rfl⟩ : ∃ wo : World, wo = wr := ⟨_, rfl⟩
    by_cases hlt : c < ns.length
    · have hnd : ns[c]? = some ns[c] := List.getElem?_eq_getElem hlt
      obtain ⟨b, off, KA, kc, rfl, hkv, n0, n1, n2, n3, hkl, hkm⟩ := (HN.out.keep hbel).at hnd
      have hki : Ints wo (.slice KA ns[c].kids.length kc) ns[c].kids := by have := ((HN.out.keep hbel).2 c _ hnd); rw [hkv] at this; exact this
      have HS := Lib.hid (map_take_succ (upNd (1 + (la : Int))) ns c hlt)
      have hksm := HK.out ns[c] (List.getElem_mem hlt)
      have HL := Lib.hid (show (([] : List Nd) ++ (ns.take c).map (upNd (1 + (la : Int)))).length = c by simp; omega)
      clear hkv hnd
      generalize ns[c] = nd at *
      obtain ⟨kd, key, tx, kids⟩ := nd
      dsimp only at n0 n1 n2 n3 hkl hki hksm
      simp only [maxLen] at hkm
      have H0 := Lib.hid (And.intro hki (And.intro hN hbel))
      clear hki hN hbel
      go_wp2_with fail
      have hin0 : ((wo.alloc (.cells #[.string kd, .int .i64 key, .string tx, .slice KA kids.length kc] 50)).alloc (.cells #[] 3)).ownsRow wo.heap.size 3 1 (.slice (some ⟨wo.heap.size + 1, 0, none⟩) 0 0) 0 [] := by
        have := World.ownsRow_lit (base := wo.heap.size) (e := 3) (size := 1) (wo.alloc (.cells #[.string kd, .int .i64 key, .string tx, .slice KA kids.length kc] 50)) #[] 0 (by simp) (by simp [maxLen]) (by simp)
        simpa using this
      have hbx0 := heap_keep (below_alloc (wo.alloc (.cells #[.string kd, .int .i64 key, .string tx, .slice KA kids.length kc] 50)) (.cells #[] 3)) (heap_alloc_new wo _)
      have hbel0 : Below wo.heap.size wo ((wo.alloc (.cells #[.string kd, .int .i64 key, .string tx, .slice KA kids.length kc] 50)).alloc (.cells #[] 3)) := below_after (below_alloc _ _) (below_alloc _ _)
      have I0 := Lib.hid (And.intro hin0 (And.intro hbx0 hbel0))
      clear hin0 hbx0 hbel0 n0 n1 n2 n3
      go_loopw [8, 23] (fun vl vi wr => ∃ c2 g2 cp2 : Nat, c2 ≤ kids.length ∧ vi = .int .i64 c2 ∧ vl = .slice (some ⟨g2, 0, none⟩) ((kids.take c2).flatMap (upKid (1 + (la : Int)))).length cp2 ∧ wr.ownsRow wo.heap.size 3 1 (.slice (some ⟨g2, 0, none⟩) ((kids.take c2).flatMap (upKid (1 + (la : Int)))).length cp2) ((kids.take c2).flatMap (upKid (1 + (la : Int)))).length (((kids.take c2).flatMap (upKid (1 + (la : Int)))).map (.int .i64)) ∧ Below wo.heap.size wo wr ∧ wr.heap[wo.heap.size]? = some (.cells #[.string kd, .int .i64 key, .string tx, .slice KA kids.length kc] 50 (0, 0))) (fun _ vi _ => kids.length - (intOf vi).toNat)
      case atStart => exact ⟨0, wo.heap.size + 1, 0, Nat.zero_le _, rfl, rfl, I0.out.1, I0.out.2.2, I0.out.2.1⟩
      case round =>
        obtain ⟨c2, g2, cp2, hc2, rfl, rfl, hown, hb2, hbx⟩ := hrel
        clear I0
        have hs2 := hb2.size
        by_cases hl2 : c2 < kids.length
        · obtain ⟨b', off', rfl, k0⟩ := Vals.at (k := c2) (x := .int .i64 kids[c2]) (Vals.keep H0.out.1 hb2) (by simp [hl2])
          have HF := Lib.hid (flat_step (upKid (1 + (la : Int))) kids c2 hl2)
          have hle := flat_take_le (upKid (1 + (la : Int))) (fun x => upKid_one _ x) kids c2
          obtain ⟨d0, d1, d2, d3⟩ := box4 hbx
          have hne := own_ne hown hbx (by decide)
          have HX := Lib.hid (And.intro hbx (And.intro hb2 hne))
          generalize kids[c2] = q at *
          generalize (kids.take c2).flatMap (upKid (1 + (la : Int))) = L at *
          clear hbx hne hb2
          by_cases h1 : q < 1073741824
          · by_cases h0 : 0 ≤ q
            · have HF2 := Lib.hid (show (kids.take (c2 + 1)).flatMap (upKid (1 + (la : Int))) = L ++ [q + 1 + (la : Int)] by rw [HF.out, upKid, if_pos ⟨h1, h0⟩, Int.add_assoc])
              have e0 : decide (q < 1073741824) = true := by simpa using h1
              go_wp2_with (at_builtin; refine wpList_push rfl (.tmp 33) (.tmp 39) _ rfl elemInts rfl hown rfl rfl rfl (by simp [Value.oneCell']) (by omega) (by omega) ?_; intro g' cp' w' hown' hbel' hgr' hlt' hat')
              go_roundw
              case rel =>
                have hbx' := (hgr'.block wo.heap.size (lt_of_heap HX.out.1) (fun e => HX.out.2.2 e.symm)).trans HX.out.1
                first | exact ⟨c2 + 1, g', cp', hl2, by go_num, by rw [HF2.out]; simp, by rw [HF2.out]; simpa using hown', HX.out.2.1.trans hbel', hbx'⟩ | ((repeat apply Exists.intro); refine ⟨?_, ?_⟩; rotate_left; (repeat' (first | rfl | apply And.intro)); first | exact ⟨c2 + 1, g', cp', hl2, by go_num, by rw [HF2.out]; simp, by rw [HF2.out]; simpa using hown', HX.out.2.1.trans hbel', hbx'⟩ | exact ⟨c2 + 1, hl2, by go_num, g', cp', by rw [HF2.out]; simp, by rw [HF2.out]; simpa using hown', HX.out.2.1.trans hbel', hbx'⟩)
              case measure => simp [intOf]; omega
            · have HF2 := Lib.hid (show (kids.take (c2 + 1)).flatMap (upKid (1 + (la : Int))) = L by rw [HF.out, upKid, if_neg (fun h => h0 h.2), List.append_nil])
              have e0 : decide (q < 1073741824) = true := by simpa using h1
              have e1 : decide (0 ≤ q) = false := by simpa using h0
              go_wp2_with fail
              go_roundw
              case rel => first | exact ⟨c2 + 1, g2, cp2, hl2, by go_num, by rw [HF2.out], by rw [HF2.out]; exact hown, HX.out.2.1, HX.out.1⟩ | ((repeat apply Exists.intro); refine ⟨?_, ?_⟩; rotate_left; (repeat' (first | rfl | apply And.intro)); first | exact ⟨c2 + 1, g2, cp2, hl2, by go_num, by rw [HF2.out], by rw [HF2.out]; exact hown, HX.out.2.1, HX.out.1⟩ | exact ⟨c2 + 1, hl2, by go_num, g2, cp2, by rw [HF2.out], by rw [HF2.out]; exact hown, HX.out.2.1, HX.out.1⟩)
              case measure => simp [intOf]; omega
          · have HF2 := Lib.hid (show (kids.take (c2 + 1)).flatMap (upKid (1 + (la : Int))) = L by rw [HF.out, upKid, if_neg (fun h => h1 h.1), List.append_nil])
            have e0 : decide (q < 1073741824) = false := by simpa using h1
            go_wp2_with fail
            go_roundw
            case rel => first | exact ⟨c2 + 1, g2, cp2, hl2, by go_num, by rw [HF2.out], by rw [HF2.out]; exact hown, HX.out.2.1, HX.out.1⟩ | ((repeat apply Exists.intro); refine ⟨?_, ?_⟩; rotate_left; (repeat' (first | rfl | apply And.intro)); first | exact ⟨c2 + 1, g2, cp2, hl2, by go_num, by rw [HF2.out], by rw [HF2.out]; exact hown, HX.out.2.1, HX.out.1⟩ | exact ⟨c2 + 1, hl2, by go_num, g2, cp2, by rw [HF2.out], by rw [HF2.out]; exact hown, HX.out.2.1, HX.out.1⟩)
            case measure => simp [intOf]; omega
        · obtain rfl : c2 = kids.length := by omega
          rw [List.take_length] at hown
          have hle := flat_le (upKid (1 + (la : Int))) (fun x => upKid_one _ x) kids
          obtain ⟨d0, d1, d2, d3⟩ := box4 hbx
          have hNr := H0.out.2.1.keep hb2
          have hrw := hNr.row
          rw [HL.out] at hrw
          have S2 := Lib.hid (And.intro hNr (And.intro hown hb2))
          rw [List.take_length]
          clear hown hNr hbx
          generalize hM : kids.flatMap (upKid (1 + (la : Int))) = M at *
          have HM := Lib.hid (show (upNd (1 + (la : Int))) ⟨kd, key, tx, kids⟩ = ⟨kd, key, tx, M⟩ by rw [← hM]; rfl)
          clear hM
          go_wp2_with (at_builtin; refine wpList_push rfl _ _ _ rfl elemImplNode rfl hrw rfl rfl rfl (by simp [Value.oneCell']) (by omega) (by omega) ?_; intro g' cp' w3 hown3 hbel3 hgr3 hlt3 hat3)
          go_roundw
          case rel =>
            have hp := OwnN.pushed (v' := .slice (some ⟨g', 0, none⟩) (c + 1) cp') (nd := ⟨kd, key, tx, M⟩) S2.out.1 (by rw [HL.out]; exact hown3) hgr3 (World.ownsRow.mono_base S2.out.2.1 hs1)
            rw [List.append_assoc, ← HM.out, ← HS.out] at hp
            have hB := (H0.out.2.2.trans (S2.out.2.2.mono H0.out.2.2.size)).trans hbel3
            first | exact ⟨c + 1, g', cp', _, hlt, by go_num, rfl, hp, hB⟩ | ((repeat apply Exists.intro); refine ⟨?_, ?_⟩; rotate_left; (repeat' (first | rfl | apply And.intro)); first | exact ⟨c + 1, g', cp', _, hlt, by go_num, rfl, hp, hB⟩ | exact ⟨c + 1, hlt, by go_num, g', cp', rfl, _, hp, hB⟩)
          case measure => simp [intOf]; omega
    · obtain rfl : c = ns.length := by omega
      rw [List.take_length] at hN
      have S := Lib.hid (And.intro hN hbel)
      clear hN hbel
      have hcut := cut_any _ a kva _ (HA.out.keep S.out.2) (by rw [HLA.out]; exact hla) HKa.out
      have HC := Lib.hid hcut
      have HSR := Lib.hid (show OwnN w.heap.size wo (.slice (some ⟨g, 0, none⟩) ns.length cp) (ns.map (upNd (1 + (la : Int)))) kv' by have := S.out.1; simpa using this)
      clear hcut
      go_wp2_with fail
      refine HC.out.mono ?_
      rintro e w1 ⟨v1, kv1, rfl, hN1, hb1⟩
      obtain ⟨A1, cap1, rfl, _, _⟩ := hN1.nodes.form
      have HL1 := Lib.hid (show (cutN a).length = la by rw [← HLA.out]; simp [cutN])
      rw [HL1.out]
      have hab := above_one kJoin _ (cutN a) kv1 _ (1 + (la : Int)) (w1.alloc (.cells #[.int .i64 (1 + (la : Int))] 3)) ((hN1.nodes).keep (below_alloc _ _)) (by rw [HL1.out]; exact hlaN) (by
        intro nd hnd
        obtain ⟨x, hx, rfl⟩ := List.mem_map.1 hnd
        have h1 := flat_le (cutKid a.length x.kind) (fun y => cutKid_one _ _ y) x.kids
        have h2 := HKa.out x hx
        show (x.kids.flatMap (cutKid a.length x.kind)).length ≤ 1048576
        omega) (Vals.lit w1 #[.int .i64 (1 + (la : Int))] 3 1 rfl (by omega))
      have HB := Lib.hid hab
      have HBW := Lib.hid (below_after S.out.2 hb1)
      have HS1 := Lib.hid (And.intro (HSR.out.keep hb1) hb1)
      rw [HL1.out] at HB
      clear hab hN1 hb1 HC
      go_wp2_with fail
      refine HB.out.mono ?_
      rintro e w2 ⟨v2, kv2, rfl, hN2, hb2⟩
      have hB2 := below_after HBW.out (below_box hb2)
      have hgl := (HS1.out.1.row.lt g rfl).2
      have hO2 := HS1.out.1.keep (below_box hb2)
      have hN2' := hN2.mono (base' := w.heap.size) (by have := HBW.out.size; simp; omega)
      have hlen2 : (aboveN kJoin (cutN a) [1 + (la : Int)]).length = la + 1 := by simp [aboveN, HL1.out]
      have hrow2 := hN2'.row
      rw [hlen2] at hrow2
      obtain ⟨g2, cap2, rfl, hg2, hg2l⟩ := hrow2.form (by omega)
      have hgg : g < g2 := by have := (hN2.row.lt g2 rfl).1; simp at this; omega
      have S2 := Lib.hid (And.intro hN2' (And.intro hO2 (And.intro hB2 hlen2)))
      have HR2 := Lib.hid hrow2
      clear hN2 hN2' hO2 hrow2 hb2 HB HS1 HBW HSR S hlen2
      by_cases hz : la = 0
      · subst hz
        have hD : a = [] := List.eq_nil_of_length_eq_zero HLA.out
        have HD := Lib.hid hD
        clear hD
        have HCN := Lib.hid (show nodesCells (aboveN kJoin (cutN a) [1 + ((0 : Nat) : Int)]) kv2 = [.string kJoin, .int .i64 9, .string kAbove, kv2 0] by rw [HD.out]; rfl)
        have hct := HR2.out
        rw [HCN.out] at hct
        have c3 := hct.cellAt 3 (by omega)
        have cf := hct.frozenAt 3
        have c3A : ∀ o, (w2.alloc o).cell? ⟨g2, 3, none⟩ = some (kv2 0) := fun o => cell_keep (below_alloc w2 o) c3
        have cfA : ∀ o, (w2.alloc o).frozen? ⟨g2, 3, none⟩ = false := fun o => by rw [World.frozen?_alloc_old _ _ _ (by show g2 ≠ w2.heap.size; omega)]; exact cf
        obtain ⟨K2, kc2, hkv2, _, _⟩ := (Vals.of_own (S2.out.1.kids 0 ⟨kJoin, 9, kAbove, [1, 1 + ((0 : Nat) : Int)]⟩ rfl)).form
        have hst := hct.stored 3 (.slice (some ⟨w2.heap.size, 0, none⟩) 2 2)
        have hk01 := World.ownsRow_lit (base := w.heap.size) (e := 3) (size := 1) (w2.setCell ⟨g2, 3, none⟩ (.slice (some ⟨w2.heap.size, 0, none⟩) 2 2)) #[.int .i64 0, .int .i64 1] 2 (by simp; exact S2.out.2.2.1.size) (by simp [maxLen]) (by simp)
        have hN3 : OwnN w.heap.size ((w2.setCell ⟨g2, 3, none⟩ (.slice (some ⟨w2.heap.size, 0, none⟩) 2 2)).alloc (.cells #[.int .i64 0, .int .i64 1] 3)) (.slice (some ⟨g2, 0, none⟩) 1 cap2) [⟨kJoin, 9, kAbove, [0, 1]⟩] (fun _ => .slice (some ⟨w2.heap.size, 0, none⟩) 2 2) := by
          refine ⟨by simpa [nodesCells, ndCells] using hst.1.alloc _, fun i nd hi => ?_⟩
          cases i with
          | zero =>
            simp only [List.getElem?_cons_zero, Option.some.injEq] at hi
            subst hi
            simpa using hk01
          | succ i => simp at hi
        have hO3 : OwnN w.heap.size ((w2.setCell ⟨g2, 3, none⟩ (.slice (some ⟨w2.heap.size, 0, none⟩) 2 2)).alloc (.cells #[.int .i64 0, .int .i64 1] 3)) (.slice (some ⟨g, 0, none⟩) ns.length cp) (ns.map (upNd (1 + ((0 : Nat) : Int)))) kv' := (S2.out.2.1.apart hct rfl hst.2 (by simp only [Value.ownBlock]; intro e; injection e with e; omega)).keep (below_alloc _ _)
        have hB3 : Below w.heap.size w ((w2.setCell ⟨g2, 3, none⟩ (.slice (some ⟨w2.heap.size, 0, none⟩) 2 2)).alloc (.cells #[.int .i64 0, .int .i64 1] 3)) := (S2.out.2.2.1.setCell (p := ⟨g2, 3, none⟩) hg2 _).alloc (by simp; exact S2.out.2.2.1.size) _
        have S3 := Lib.hid (And.intro hN3 (And.intro hO3 hB3))
        rw [hkv2] at c3A
        clear hct c3 cf hst hk01 hN3 hO3 hB3 hkv2
        have hr3 := S3.out.1.row
        have hnw : ∀ (j : Nat) (u : Value), (nodesCells (ns.map (upNd (1 + ((0 : Nat) : Int)))) kv')[j]? = some u → ((w2.setCell ⟨g2, 3, none⟩ (.slice (some ⟨w2.heap.size, 0, none⟩) 2 2)).alloc (.cells #[.int .i64 0, .int .i64 1] 3)).cell? ⟨g, 0 + j, none⟩ = some u := fun j u hu => by have := S3.out.2.1.row.cells (g := g) rfl j u hu; rw [add_none] at this; exact this
        have HNW := Lib.hid (And.intro hnw S3.out.2.1.one)
        have hbs := S3.out.2.2.size
        clear hnw
        go_wp2_with (at_builtin; (refine wpList_spread0 rfl (.tmp 68) (.tmp 69) _ rfl elemImplNode rfl hr3 rfl (by rw [nodesCells_length, List.length_map]) HNW.out.1 HNW.out.2 (by simp) (by simp; omega) hbs ?_; intro g4 cp4 w4 hown4 hbel4 hgr4))
        go_ret
        have hfin := S3.out.1.append S3.out.2.1 (v' := .slice (some ⟨g4, 0, none⟩) (1 + ns.length) cp4) (by rw [List.length_map]; exact hown4) hgr4
        have he : besideN a ns = [⟨kJoin, 9, kAbove, [0, 1]⟩] ++ ns.map (upNd (1 + ((0 : Nat) : Int))) := by rw [HD.out]; rfl
        rw [← he] at hfin
        exact ⟨_, _, rfl, hfin, S3.out.2.2.trans hbel4⟩
      · have hz2 : ((la : Int) == 0) = false := by simp; omega
        have hnw : ∀ (j : Nat) (u : Value), (nodesCells (ns.map (upNd (1 + (la : Int)))) kv')[j]? = some u → w2.cell? ⟨g, 0 + j, none⟩ = some u := fun j u hu => by have := S2.out.2.1.row.cells (g := g) rfl j u hu; rw [add_none] at this; exact this
        have HNW := Lib.hid (And.intro hnw S2.out.2.1.one)
        have hbs := S2.out.2.2.1.size
        have hr2 := HR2.out
        clear hnw
        go_wp2_with (at_builtin; refine wpList_spread0 rfl (.tmp 68) (.tmp 69) _ rfl elemImplNode rfl hr2 rfl (by rw [nodesCells_length, List.length_map]) HNW.out.1 HNW.out.2 (by omega) (by omega) hbs ?_; intro g4 cp4 w4 hown4 hbel4 hgr4)
        go_ret
        have hfin := S2.out.1.append S2.out.2.1 (v' := .slice (some ⟨g4, 0, none⟩) (la + 1 + ns.length) cp4) (by rw [List.length_map, S2.out.2.2.2]; exact hown4) hgr4
        have he : besideN a ns = aboveN kJoin (cutN a) [1 + (la : Int)] ++ ns.map (upNd (1 + (la : Int))) := by unfold besideN; rw [if_neg (by rw [HLA.out]; exact hz), HLA.out]
        rw [← he] at hfin
        exact ⟨_, _, rfl, hfin, S2.out.2.2.1.trans hbel4⟩
end Go.Proofs.Ytnekgmkonhclbaa
