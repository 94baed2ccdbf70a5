/-
  The walk of the reference's Made.
  Conditions: at most 2^36 nodes, and at most 2^36 kids of each.
-/
import Derived.Test.YtccoeajjomfmnaaDoorSpecMade
import Derived.Deep.RegionHeld3
namespace Go.Proofs.YtccoeajjomfmnaaDoor
open Go.RowKit Go.Lib

/-- What Made leaves. -/
def SpecMade (w : World) (nv : Value) (ns : List Nd) (e : Ending) (w' : World) : Prop :=
  ∃ gi gk ks, e = .returned (.agg #[nv, .slice (some ⟨gi, 0, none⟩) ns.length ns.length, .slice (some ⟨gk, 0, none⟩) ns.length ns.length]) ∧ Below w.heap.size w w' ∧
    Vals w' (.slice (some ⟨gi, 0, none⟩) ns.length ns.length) ((isTo ns 0).map .bool) ∧ Vals w' (.slice (some ⟨gk, 0, none⟩) ns.length ns.length) (rowsTo ns.length 0 ks) ∧ ∀ j, j < ns.length → Vals w' (ks j) (asInts (kidsOf ns j))

theorem heap4 (w : World) (o0 o1 o2 o3 : Obj) : Below w.heap.size w ((((w.alloc o0).alloc o1).alloc o2).alloc o3).drew ∧ ((((w.alloc o0).alloc o1).alloc o2).alloc o3).drew.heap[w.heap.size]? = some o0 ∧
    ((((w.alloc o0).alloc o1).alloc o2).alloc o3).drew.heap[w.heap.size + 1]? = some o1 ∧ ((((w.alloc o0).alloc o1).alloc o2).alloc o3).drew.heap[w.heap.size + 1 + 1]? = some o2 ∧ ((((w.alloc o0).alloc o1).alloc o2).alloc o3).drew.heap[w.heap.size + 1 + 1 + 1]? = some o3 := by
  refine ⟨((((Below.refl _ _).alloc (Nat.le_refl _) _).alloc (by simp) _).alloc (by simp <;> omega) _ |>.alloc (by simp <;> omega) _).drew, ?_, ?_, ?_, ?_⟩
  · show ((((w.alloc o0).alloc o1).alloc o2).alloc o3).heap[w.heap.size]? = _
    rw [Below.heap_alloc _ _ _ (by simp <;> omega), Below.heap_alloc _ _ _ (by simp <;> omega), Below.heap_alloc _ _ _ (by simp)]
    exact heap_alloc_new w o0
  · show ((((w.alloc o0).alloc o1).alloc o2).alloc o3).heap[w.heap.size + 1]? = _
    rw [Below.heap_alloc _ _ _ (by simp <;> omega), Below.heap_alloc _ _ _ (by simp)]
    have := heap_alloc_new (w.alloc o0) o1
    simpa using this
  · show ((((w.alloc o0).alloc o1).alloc o2).alloc o3).heap[w.heap.size + 1 + 1]? = _
    rw [Below.heap_alloc _ _ _ (by simp)]
    have := heap_alloc_new ((w.alloc o0).alloc o1) o2
    simpa using this
  · show ((((w.alloc o0).alloc o1).alloc o2).alloc o3).heap[w.heap.size + 1 + 1 + 1]? = _
    have := heap_alloc_new (((w.alloc o0).alloc o1).alloc o2) o3
    simpa using this

theorem FTo.start {w W : World} {nv : Value} {ns : List Nd} {gf gi gk : Nat} {CB CK : Array Value} (hb : Below w.heap.size w W) (hCB : CB.toList = List.replicate ns.length (.bool false)) (hCK : CK.toList = List.replicate ns.length (.slice none 0 0)) (hn : ns.length ≤ 68719476736)
    (hres : W.heap[w.heap.size]? = some (.cells #[.slice none 0 0, .slice none 0 0, .slice none 0 0] 37 (0, 0))) (hne : w.heap.size < gf) (hgi : w.heap.size ≤ gi) (hgk : w.heap.size ≤ gk)
    (hf : W.heap[gf]? = some (.cells #[nv, .slice (some ⟨gi, 0, none⟩) ns.length ns.length, .slice (some ⟨gk, 0, none⟩) ns.length ns.length] 37 (0, 0)))
    (hi : W.heap[gi]? = some (.cells CB 4 (0, 0))) (hk : W.heap[gk]? = some (.cells CK 45 (0, 0))) : FTo w nv ns ns.length W gf gi gk (fun _ => .slice none 0 0) := by
  have l1 : CB.size = ns.length := by rw [← Array.length_toList, hCB]; simp
  have l2 : CK.size = ns.length := by rw [← Array.length_toList, hCK]; simp
  refine ⟨hb, hres, hne, hf, ⟨by simp [isTo_length], .inr ⟨gi, ns.length, CB, rfl, hgi, hi, Nat.le_refl _, by simp only [maxLen]; omega, by omega, ?_⟩⟩, ⟨by simp [rowsTo_length], .inr ⟨gk, ns.length, CK, rfl, hgk, hk, Nat.le_refl _, by simp only [maxLen]; omega, by omega, ?_⟩⟩, fun j h1 h2 => by omega⟩
  · rw [hCB, isTo_none, Nat.mul_one, List.map_replicate]; simp
  · rw [hCK, rowsTo_none, Nat.mul_one]; simp

theorem kind6 (s : ByteArray) : s = kMany ∨ s = kJoin ∨ s = kWrap ∨ s = kAlike ∨ s = kActs ∨ (s ≠ kMany ∧ s ≠ kJoin ∧ s ≠ kWrap ∧ s ≠ kAlike ∧ s ≠ kActs) := by
  by_cases h1 : s = kMany
  · exact .inl h1
  by_cases h2 : s = kJoin
  · exact .inr (.inl h2)
  by_cases h3 : s = kWrap
  · exact .inr (.inr (.inl h3))
  by_cases h4 : s = kAlike
  · exact .inr (.inr (.inr (.inl h4)))
  by_cases h5 : s = kActs
  · exact .inr (.inr (.inr (.inr (.inl h5))))
  exact .inr (.inr (.inr (.inr (.inr ⟨h1, h2, h3, h4, h5⟩))))

theorem specKids_several {ns : List Nd} {i : Nat} {kids : List Int} {s : ByteArray} (h : s = kMany ∨ s = kJoin) : specKids ns i s kids = kids.filterMap (liveKid ns i) := by
  rcases h with rfl | rfl <;> rfl
theorem specKids_single {ns : List Nd} {i : Nat} {kids : List Int} {s : ByteArray} (h : s = kWrap ∨ s = kAlike ∨ s = kActs) : specKids ns i s kids = (kids.head?.bind (liveKid ns i)).toList := by
  rcases h with rfl | rfl | rfl <;> rfl
theorem specKids_none {ns : List Nd} {i : Nat} {kids : List Int} {s : ByteArray} (h : s ≠ kMany ∧ s ≠ kJoin ∧ s ≠ kWrap ∧ s ≠ kAlike ∧ s ≠ kActs) : specKids ns i s kids = [] := by
  unfold specKids
  cases hk : kindOf s with
  | none => rfl
  | some k =>
    have e := word_of_kind hk
    obtain ⟨h1, h2, h3, h4, h5⟩ := h
    cases k <;> first | rfl | exact absurd e h1 | exact absurd e h2 | exact absurd e h3 | exact absurd e h4 | exact absurd e h5

theorem several_step {ns : List Nd} {i : Nat} {kids : List Int} {s : ByteArray} (h : s = kMany ∨ s = kJoin) (c : Nat) (hc : c < kids.length) : specKids ns i s (kids.take (c + 1)) = specKids ns i s (kids.take c) ++ (liveKid ns i kids[c]).toList := by
  rw [specKids_several h, specKids_several h, List.take_succ_eq_append_getElem hc, List.filterMap_append]
  cases hl : liveKid ns i kids[c] <;> simp [hl]
theorem single_first {ns : List Nd} {i : Nat} {kids : List Int} {s : ByteArray} (h : s = kWrap ∨ s = kAlike ∨ s = kActs) (hc : 0 < kids.length) : specKids ns i s (kids.take 1) = (liveKid ns i kids[0]).toList := by
  rw [specKids_single h]
  cases kids with
  | nil => simp at hc
  | cons a r => rfl
theorem single_later {ns : List Nd} {i : Nat} {kids : List Int} {s : ByteArray} (h : s = kWrap ∨ s = kAlike ∨ s = kActs) (c : Nat) (hc : 0 < c) : specKids ns i s (kids.take (c + 1)) = specKids ns i s (kids.take c) := by
  rw [specKids_single h, specKids_single h]
  obtain ⟨d, rfl⟩ : ∃ d, c = d + 1 := ⟨c - 1, by omega⟩
  cases kids with
  | nil => rfl
  | cons a r => rfl
theorem specKids_empty (ns : List Nd) (i : Nat) (s : ByteArray) : specKids ns i s [] = [] := by
  unfold specKids
  cases kindOf s with
  | none => rfl
  | some k => cases k <;> rfl
theorem specKids_le {ns : List Nd} {i : Nat} {kids : List Int} {s : ByteArray} : (specKids ns i s kids).length ≤ kids.length := by
  unfold specKids
  cases kindOf s with
  | none => simp
  | some k =>
    cases k <;> simp only [kidsBy] <;> first
      | exact List.length_filterMap_le _ _
      | simp
      | (cases kids with
         | nil => simp
         | cons a r => cases hl : liveKid ns i a <;> simp [hl])

theorem SpecMade.mk {w wr : World} {nv : Value} {ns : List Nd} {gf gi gk : Nat} {ks : Nat → Value} {x y z : Value} (F : FTo w nv ns 0 wr gf gi gk ks) :
    SpecMade w nv ns (.returned (.agg #[nv, .slice (some ⟨gi, 0, none⟩) ns.length ns.length, .slice (some ⟨gk, 0, none⟩) ns.length ns.length])) (((wr.setCell ⟨w.heap.size, 0, none⟩ x).setCell ⟨w.heap.size, 1, none⟩ y).setCell ⟨w.heap.size, 2, none⟩ z) := by
  have hlt := lt_of_heap F.res
  have nI : gi ≠ w.heap.size := fun e => own_ne F.rowI (e ▸ F.res) (by decide) (by rw [e]; rfl)
  have nK : gk ≠ w.heap.size := fun e => own_ne F.rowK (e ▸ F.res) (by decide) (by rw [e]; rfl)
  have carry : ∀ v xs e n, wr.ownsRow w.heap.size e 1 v n xs → 37 ≠ e → Vals (((wr.setCell ⟨w.heap.size, 0, none⟩ x).setCell ⟨w.heap.size, 1, none⟩ y).setCell ⟨w.heap.size, 2, none⟩ z) v xs := fun v xs e n hv hne => by
    refine Vals.of_own (base := w.heap.size) (e := e) (n := n) ?_
    have grow : ∀ (W : World) (j : Nat) (u : Value), W.grownBy (W.setCell ⟨w.heap.size, j, none⟩ u) (some w.heap.size) := fun W j u => ⟨rfl, rfl, rfl, by simp, fun k _ hk => heap_setCell_other W ⟨w.heap.size, j, none⟩ k u (fun e => hk (by simp [e]))⟩
    have hb := own_ne hv F.res (fun h => hne h.symm)
    exact ((hv.kept (grow _ _ _) (.inr hb)).kept (grow _ _ _) (.inr hb)).kept (grow _ _ _) (.inr hb)
  exact ⟨gi, gk, ks, rfl, ((F.bel.setCell (p := ⟨_, 0, none⟩) (Nat.le_refl _) _).setCell (p := ⟨_, 1, none⟩) (Nat.le_refl _) _).setCell (p := ⟨_, 2, none⟩) (Nat.le_refl _) _, carry _ _ _ _ F.rowI (by decide), carry _ _ _ _ F.rowK (by decide), fun j hj => carry _ _ _ _ (F.kids j (Nat.zero_le _) hj) (by decide)⟩

theorem join_there {ns : List Nd} {m : Nat} {nd : Nd} (h : ns[m]? = some nd) (hk : nd.kind = kJoin) : isThere ns m = decide (0 < (kidsOf ns m).length) := by
  rw [isThere_eq ns m nd h, kidsOf_spec h, hk, specKids_several (.inr rfl)]
  show (nd.kids.any fun k => (liveKid ns m k).isSome) = _
  induction nd.kids with
  | nil => rfl
  | cons a r ih =>
    cases hl : liveKid ns m a with
    | none => rw [List.any_cons, List.filterMap_cons_none hl, hl]; simpa using ih
    | some j => rw [List.any_cons, List.filterMap_cons_some hl, hl]; simp

theorem FTo.drew {w wr : World} {nv : Value} {ns : List Nd} {m gf gi gk : Nat} {ks : Nat → Value} (h : FTo w nv ns m wr gf gi gk ks) : FTo w nv ns m wr.drew gf gi gk ks := h.keep (Below.refl _ _).drew

attribute [local go_sem] undef

set_option maxRecDepth 100000 in
set_option maxHeartbeats 4000000 in
theorem specMade_any (v : Value) (ns : List Nd) (kv : Nat → Value) (w : World) (h : Nodes w v ns kv) (hn : ns.length ≤ 68719476736) (hk : ∀ nd ∈ ns, nd.kids.length ≤ 68719476736) :
    Calls Tryd.prog 17 #[v] w (SpecMade w v ns) := by
  obtain ⟨A, cap, rfl, h1, h2⟩ := h.form
  simp only [maxLen] at h2
  obtain ⟨CB, hCB, hmkB⟩ := elemBools.make zeroBool rfl ns.length (by omega) (by omega)
  obtain ⟨CK, hCK, hmkK⟩ := elemRows.make zeroRow rfl ns.length (by omega) (by omega)
  have H := Lib.hid h
  have HK := Lib.hid hk
  have HCB := Lib.hid hCB
  have HCK := Lib.hid hCK
  clear h hk hCB hCK
  go_enter Tryd.func17, Tryd.ntmps17
  go_wp2_with fail
  go_cut [3] (fun s3 wc => ∃ gf gi gk, s3 = .pointer (some ⟨gf, 0, none⟩) ∧ FTo w (.slice A ns.length cap) ns ns.length wc gf gi gk (fun _ => .slice none 0 0))
  case first =>
    go_region
    all_goals (go_wp2_with fail; go_meet)
    all_goals
      obtain ⟨hb, g0, g1, g2, g3⟩ := heap4 w _ _ _ _
      first
        | exact ⟨_, _, _, rfl, FTo.start hb HCB.out HCK.out hn g0 (by omega) (by omega) (by omega) g3 g1 g2⟩
        | exact ⟨_, _, _, rfl, FTo.start hb HCB.out HCK.out hn g0 (by omega) (by omega) (by omega) g3 g2 g1⟩
        | exact ⟨_, _, _, rfl, FTo.start hb HCB.out HCK.out hn g0 (by omega) (by omega) (by omega) g2 g1 g3⟩
        | exact ⟨_, _, _, rfl, FTo.start hb HCB.out HCK.out hn g0 (by omega) (by omega) (by omega) g2 g3 g1⟩
        | exact ⟨_, _, _, rfl, FTo.start hb HCB.out HCK.out hn g0 (by omega) (by omega) (by omega) g1 g2 g3⟩
        | exact ⟨_, _, _, rfl, FTo.start hb HCB.out HCK.out hn g0 (by omega) (by omega) (by omega) g1 g3 g2⟩
  case rest =>
    obtain ⟨gf, gi, gk, rfl, hF⟩ := hcut
    have F0 := Lib.hid hF
    clear hF hmkB hmkK
    go_wp2_with fail
    go_wp2_with fail
    go_wp2_with fail
    go_wp2_with fail
    go_wp2_with fail
    go_wp2_with fail
    go_wp2_with fail
    go_wp2_with fail
    go_wp2_with fail
    go_wp2_with fail
    go_wp2_with fail
    go_wp2_with fail
    go_wp2_with fail
    go_loopw [4] (fun v4 wr => ∃ (m : Nat) (z : Int) (ks : Nat → Value), m ≤ ns.length ∧ z + 1 = (m : Int) ∧ v4 = .int .i64 z ∧ FTo w (.slice A ns.length cap) ns m wr gf gi gk ks) (fun v4 _ => (intOf v4 + 1).toNat)
    case atStart => exact ⟨ns.length, (ns.length : Int) - 1, _, Nat.le_refl _, by omega, rfl, F0.out⟩
    case round =>
      obtain ⟨m, z, ks, hm, hz, rfl, hF⟩ := hrel
      cases m with
      | zero =>
        obtain rfl : z = -1 := by omega
        have r0 := cell_of_heap hF.res 0 rfl
        have r1 := cell_of_heap hF.res 1 rfl
        have r2 := cell_of_heap hF.res 2 rfl
        have q0 := frozen_of_heap hF.res 0
        have q1 := frozen_of_heap hF.res 1
        have q2 := frozen_of_heap hF.res 2
        have b0 := cell_of_heap hF.blk 0 rfl
        have b1 := cell_of_heap hF.blk 1 rfl
        have b2 := cell_of_heap hF.blk 2 rfl
        have F := Lib.hid hF
        clear hF F0
        go_wp2_with fail
        refine bodyPost_ret (v := .agg #[.slice A ns.length cap, .slice (some ⟨gi, 0, none⟩) ns.length ns.length, .slice (some ⟨gk, 0, none⟩) ns.length ns.length]) ?_ rfl ?_
        · have hc0 := World.cell?_setCell_same wr ⟨w.heap.size, 0, none⟩ (.slice A ns.length cap) r0
          simp [results, Tryd.results17, go_sem, hc0, r1, r2]
        · exact SpecMade.mk F.out
      | succ m =>
        obtain rfl : z = (m : Int) := by omega
        obtain ⟨wo, rfl⟩ : ∃ wo : World, wo = wr := ⟨_, rfl⟩
        clear hz F0
        have hmn : m < ns.length := hm
        have hs1 := hF.bel.size
        have hnd : ns[m]? = some ns[m] := List.getElem?_eq_getElem hmn
        obtain ⟨b, off, KA, kc, rfl, hkv, c0, c1, c2, c3, hkc, hkm⟩ := Nodes.at (H.out.keep hF.bel) hnd
        have hkids : Ints wo (.slice KA ns[m].kids.length kc) ns[m].kids := by have := (H.out.2 m _ hnd).keep hF.bel; rw [hkv] at this; exact this
        have hkl := HK.out ns[m] (List.getElem_mem hmn)
        clear hkv
        generalize hnde : ns[m] = nd at *
        obtain ⟨kd, key, text, kids⟩ := nd
        dsimp only at c0 c1 c2 c3 hkc hkids hkl
        have HND := Lib.hid hnd
        have F := Lib.hid hF
        have HKI := Lib.hid hkids
        clear hnd hnde hF hkids
        go_wp2_with fail
        have hbs : Below wo.heap.size wo ((wo.alloc (.cells #[.string kd, .int .i64 key, .string text, .slice KA kids.length kc] 47)).alloc (.cells #[] 3)) := ((Below.refl _ _).alloc (Nat.le_refl _) _).alloc (by simp) _
        have hbk : ((wo.alloc (.cells #[.string kd, .int .i64 key, .string text, .slice KA kids.length kc] 47)).alloc (.cells #[] 3)).heap[wo.heap.size]? = some (.cells #[.string kd, .int .i64 key, .string text, .slice KA kids.length kc] 47 (0, 0)) := by
          rw [Below.heap_alloc _ _ _ (by simp)]; exact heap_alloc_new wo _
        have hro : ((wo.alloc (.cells #[.string kd, .int .i64 key, .string text, .slice KA kids.length kc] 47)).alloc (.cells #[] 3)).ownsRow wo.heap.size 3 1 (.slice (some ⟨wo.heap.size + 1, 0, none⟩) 0 0) 0 [] := by
          have := World.ownsRow_lit (base := wo.heap.size) (e := 3) (size := 1) (wo.alloc (.cells #[.string kd, .int .i64 key, .string text, .slice KA kids.length kc] 47)) #[] 0 (by simp) (by simp [maxLen]) (by simp)
          simpa using this
        have I0 := Lib.hid (And.intro hbs (And.intro hbk hro))
        clear hbs hbk hro c0 c1 c2 c3
        go_loopw [6, 34] (fun v6 v34 wr => ∃ c g cp : Nat, c ≤ kids.length ∧ v34 = .int .i64 c ∧ v6 = .slice (some ⟨g, 0, none⟩) (specKids ns m kd (kids.take c)).length cp ∧ wr.ownsRow wo.heap.size 3 1 (.slice (some ⟨g, 0, none⟩) (specKids ns m kd (kids.take c)).length cp) (specKids ns m kd (kids.take c)).length (asInts (specKids ns m kd (kids.take c))) ∧ Below wo.heap.size wo wr ∧ wr.heap[wo.heap.size]? = some (.cells #[.string kd, .int .i64 key, .string text, .slice KA kids.length kc] 47 (0, 0))) (fun _ v34 _ => kids.length - (intOf v34).toNat)
        case atStart =>
          refine ⟨0, wo.heap.size + 1, 0, Nat.zero_le _, rfl, ?_, ?_, I0.out.1, I0.out.2.1⟩
          · rw [List.take_zero, specKids_empty]; rfl
          · rw [List.take_zero, specKids_empty]; exact I0.out.2.2
        case round =>
          obtain ⟨c, g, cp, hc, rfl, rfl, hown, hbel, hblk⟩ := hrel
          clear I0
          have hs2 := hbel.size
          by_cases hlt : c < kids.length
          · obtain ⟨b', off', hKA, e0⟩ := Vals.at (k := c) (x := .int .i64 kids[c]) (Vals.keep HKI.out hbel) (by simp [hlt])
            subst hKA
            have d0 := cell_of_heap hblk 0 rfl
            have F2 := F.out.keep hbel
            have b0 := cell_of_heap F2.blk 0 rfl
            have b1 := cell_of_heap F2.blk 1 rfl
            have b2 := cell_of_heap F2.blk 2 rfl
            have hth : ∀ W, Below wr.heap.size wr W → (m : Int) < kids[c] → Calls Tryd.prog 18 #[.agg #[.slice (some ⟨b, off, none⟩) ns.length cap, .slice (some ⟨gi, 0, none⟩) ns.length ns.length, .slice (some ⟨gk, 0, none⟩) ns.length ns.length], .int .i64 kids[c]] W fun e w' => e = .returned (.bool (liveKid ns m kids[c]).isSome) ∧ Below W.heap.size W w' := fun W hW hk => by
              have := there_any (some ⟨b, off, none⟩) cap _ (some ⟨gk, 0, none⟩) ns.length ns.length (isTo ns (m + 1)) kids[c] W ((Vals.of_own F2.rowI).keep hW)
              rw [isTo_length, hasAt_isTo ns m _ hk] at this
              exact this
            have HTH := Lib.hid hth
            have hle : (specKids ns m kd (kids.take c)).length ≤ c := by have := specKids_le (ns := ns) (i := m) (s := kd) (kids := kids.take c); have h2 : (kids.take c).length ≤ c := List.length_take_le _ _; omega
            have HB := Lib.hid hblk
            clear hth F2 hblk
            rcases kind6 kd with hkd | hkd | hkd | hkd | hkd | hkd
            · subst hkd
              have HS := Lib.hid (several_step (ns := ns) (i := m) (s := kMany) (.inl rfl) c hlt)
              generalize kids[c] = q at *
              generalize specKids ns m kMany (kids.take c) = L at *
              simp only [kMany] at *
              by_cases hq : (m : Int) < q
              · have hq1 : decide ((m : Int) < q) = true := by simpa using hq
                cases hl : liveKid ns m q with
                | none =>
                  have HT := Lib.hid (show ∀ W, Below wr.heap.size wr W → Calls Tryd.prog 18 #[.agg #[.slice (some ⟨b, off, none⟩) ns.length cap, .slice (some ⟨gi, 0, none⟩) ns.length ns.length, .slice (some ⟨gk, 0, none⟩) ns.length ns.length], .int .i64 q] W fun e w' => e = .returned (.bool false) ∧ Below W.heap.size W w' from fun W hW => by have := HTH.out W hW hq; rw [hl] at this; exact this)
                  have HS2 := Lib.hid (show specKids ns m _ (kids.take (c + 1)) = L by rw [HS.out, hl]; simp)
                  clear hl
                  go_wp2_with (go_at_call 18; refine (HT.out _ (Below.refl _ _)).mono ?_; rintro e w5 ⟨rfl, hb5⟩)
                  go_roundw
                  case rel => first | exact ⟨c + 1, g, cp, hlt, by go_num, by rw [HS2.out], by rw [HS2.out]; exact (own_below hown hb5), (hbel.trans (hb5.mono hs2)), ((hb5.block _ (lt_of_heap HB.out)).trans HB.out)⟩ | ((repeat apply Exists.intro); refine ⟨?_, ?_⟩; rotate_left; (repeat' (first | rfl | apply And.intro)); first | exact ⟨c + 1, g, cp, hlt, by go_num, by rw [HS2.out], by rw [HS2.out]; exact (own_below hown hb5), (hbel.trans (hb5.mono hs2)), ((hb5.block _ (lt_of_heap HB.out)).trans HB.out)⟩ | exact ⟨c + 1, hlt, by go_num, g, cp, by rw [HS2.out], by rw [HS2.out]; exact (own_below hown hb5), (hbel.trans (hb5.mono hs2)), ((hb5.block _ (lt_of_heap HB.out)).trans HB.out)⟩)
                  case measure => simp [intOf]; omega
                | some j =>
                  have HT := Lib.hid (show ∀ W, Below wr.heap.size wr W → Calls Tryd.prog 18 #[.agg #[.slice (some ⟨b, off, none⟩) ns.length cap, .slice (some ⟨gi, 0, none⟩) ns.length ns.length, .slice (some ⟨gk, 0, none⟩) ns.length ns.length], .int .i64 q] W fun e w' => e = .returned (.bool true) ∧ Below W.heap.size W w' from fun W hW => by have := HTH.out W hW hq; rw [hl] at this; exact this)
                  obtain rfl : q = (j : Int) := (liveKid_some hl).2.2.2
                  have HS2 := Lib.hid (show specKids ns m _ (kids.take (c + 1)) = L ++ [j] by rw [HS.out, hl]; rfl)
                  clear hl
                  go_wp2_with (first | (go_at_call 18; refine (HT.out _ (Below.refl _ _)).mono ?_; rintro e w5 ⟨rfl, hb5⟩; have hown5 := own_below hown hb5; have hs5 := hb5.size) | (at_builtin; refine wpList_push rfl (.tmp 78) (.tmp 80) _ rfl elemInts rfl hown5 rfl rfl rfl (by simp [Value.oneCell']) (by omega) (by omega) ?_; intro g' cp' w' hown' hbel' hgr' hlt' hat'))
                  have hblk5 := (hb5.block _ (lt_of_heap HB.out)).trans HB.out
                  have hblk6 := (hgr'.block _ (lt_of_heap hblk5) (fun e => own_ne hown5 hblk5 (by decide) e.symm)).trans hblk5
                  go_roundw
                  case rel => first | exact ⟨c + 1, g', cp', hlt, by go_num, by rw [HS2.out]; simp, by rw [HS2.out]; simpa [asInts] using hown', (hbel.trans (hb5.mono hs2)).trans hbel', hblk6⟩ | ((repeat apply Exists.intro); refine ⟨?_, ?_⟩; rotate_left; (repeat' (first | rfl | apply And.intro)); first | exact ⟨c + 1, g', cp', hlt, by go_num, by rw [HS2.out]; simp, by rw [HS2.out]; simpa [asInts] using hown', (hbel.trans (hb5.mono hs2)).trans hbel', hblk6⟩ | exact ⟨c + 1, hlt, by go_num, g', cp', by rw [HS2.out]; simp, by rw [HS2.out]; simpa [asInts] using hown', (hbel.trans (hb5.mono hs2)).trans hbel', hblk6⟩)
                  case measure => simp [intOf]; omega
              · have hq1 : decide ((m : Int) < q) = false := by simpa using hq
                have hl : liveKid ns m q = none := by unfold liveKid; rw [show okKid ns.length m q = false from decide_eq_false (fun h => hq h.1)]; rfl
                have HS2 := Lib.hid (show specKids ns m _ (kids.take (c + 1)) = L by rw [HS.out, hl]; simp)
                clear hl
                go_wp2_with fail
                go_roundw
                case rel => first | exact ⟨c + 1, g, cp, hlt, by go_num, by rw [HS2.out], by rw [HS2.out]; exact hown, hbel, HB.out⟩ | ((repeat apply Exists.intro); refine ⟨?_, ?_⟩; rotate_left; (repeat' (first | rfl | apply And.intro)); first | exact ⟨c + 1, g, cp, hlt, by go_num, by rw [HS2.out], by rw [HS2.out]; exact hown, hbel, HB.out⟩ | exact ⟨c + 1, hlt, by go_num, g, cp, by rw [HS2.out], by rw [HS2.out]; exact hown, hbel, HB.out⟩)
                case measure => simp [intOf]; omega
            · subst hkd
              have HS := Lib.hid (several_step (ns := ns) (i := m) (s := kJoin) (.inr rfl) c hlt)
              generalize kids[c] = q at *
              generalize specKids ns m kJoin (kids.take c) = L at *
              simp only [kJoin] at *
              by_cases hq : (m : Int) < q
              · have hq1 : decide ((m : Int) < q) = true := by simpa using hq
                cases hl : liveKid ns m q with
                | none =>
                  have HT := Lib.hid (show ∀ W, Below wr.heap.size wr W → Calls Tryd.prog 18 #[.agg #[.slice (some ⟨b, off, none⟩) ns.length cap, .slice (some ⟨gi, 0, none⟩) ns.length ns.length, .slice (some ⟨gk, 0, none⟩) ns.length ns.length], .int .i64 q] W fun e w' => e = .returned (.bool false) ∧ Below W.heap.size W w' from fun W hW => by have := HTH.out W hW hq; rw [hl] at this; exact this)
                  have HS2 := Lib.hid (show specKids ns m _ (kids.take (c + 1)) = L by rw [HS.out, hl]; simp)
                  clear hl
                  go_wp2_with (go_at_call 18; refine (HT.out _ (Below.refl _ _)).mono ?_; rintro e w5 ⟨rfl, hb5⟩)
                  go_roundw
                  case rel => first | exact ⟨c + 1, g, cp, hlt, by go_num, by rw [HS2.out], by rw [HS2.out]; exact (own_below hown hb5), (hbel.trans (hb5.mono hs2)), ((hb5.block _ (lt_of_heap HB.out)).trans HB.out)⟩ | ((repeat apply Exists.intro); refine ⟨?_, ?_⟩; rotate_left; (repeat' (first | rfl | apply And.intro)); first | exact ⟨c + 1, g, cp, hlt, by go_num, by rw [HS2.out], by rw [HS2.out]; exact (own_below hown hb5), (hbel.trans (hb5.mono hs2)), ((hb5.block _ (lt_of_heap HB.out)).trans HB.out)⟩ | exact ⟨c + 1, hlt, by go_num, g, cp, by rw [HS2.out], by rw [HS2.out]; exact (own_below hown hb5), (hbel.trans (hb5.mono hs2)), ((hb5.block _ (lt_of_heap HB.out)).trans HB.out)⟩)
                  case measure => simp [intOf]; omega
                | some j =>
                  have HT := Lib.hid (show ∀ W, Below wr.heap.size wr W → Calls Tryd.prog 18 #[.agg #[.slice (some ⟨b, off, none⟩) ns.length cap, .slice (some ⟨gi, 0, none⟩) ns.length ns.length, .slice (some ⟨gk, 0, none⟩) ns.length ns.length], .int .i64 q] W fun e w' => e = .returned (.bool true) ∧ Below W.heap.size W w' from fun W hW => by have := HTH.out W hW hq; rw [hl] at this; exact this)
                  obtain rfl : q = (j : Int) := (liveKid_some hl).2.2.2
                  have HS2 := Lib.hid (show specKids ns m _ (kids.take (c + 1)) = L ++ [j] by rw [HS.out, hl]; rfl)
                  clear hl
                  go_wp2_with (first | (go_at_call 18; refine (HT.out _ (Below.refl _ _)).mono ?_; rintro e w5 ⟨rfl, hb5⟩; have hown5 := own_below hown hb5; have hs5 := hb5.size) | (at_builtin; refine wpList_push rfl (.tmp 78) (.tmp 80) _ rfl elemInts rfl hown5 rfl rfl rfl (by simp [Value.oneCell']) (by omega) (by omega) ?_; intro g' cp' w' hown' hbel' hgr' hlt' hat'))
                  have hblk5 := (hb5.block _ (lt_of_heap HB.out)).trans HB.out
                  have hblk6 := (hgr'.block _ (lt_of_heap hblk5) (fun e => own_ne hown5 hblk5 (by decide) e.symm)).trans hblk5
                  go_roundw
                  case rel => first | exact ⟨c + 1, g', cp', hlt, by go_num, by rw [HS2.out]; simp, by rw [HS2.out]; simpa [asInts] using hown', (hbel.trans (hb5.mono hs2)).trans hbel', hblk6⟩ | ((repeat apply Exists.intro); refine ⟨?_, ?_⟩; rotate_left; (repeat' (first | rfl | apply And.intro)); first | exact ⟨c + 1, g', cp', hlt, by go_num, by rw [HS2.out]; simp, by rw [HS2.out]; simpa [asInts] using hown', (hbel.trans (hb5.mono hs2)).trans hbel', hblk6⟩ | exact ⟨c + 1, hlt, by go_num, g', cp', by rw [HS2.out]; simp, by rw [HS2.out]; simpa [asInts] using hown', (hbel.trans (hb5.mono hs2)).trans hbel', hblk6⟩)
                  case measure => simp [intOf]; omega
              · have hq1 : decide ((m : Int) < q) = false := by simpa using hq
                have hl : liveKid ns m q = none := by unfold liveKid; rw [show okKid ns.length m q = false from decide_eq_false (fun h => hq h.1)]; rfl
                have HS2 := Lib.hid (show specKids ns m _ (kids.take (c + 1)) = L by rw [HS.out, hl]; simp)
                clear hl
                go_wp2_with fail
                go_roundw
                case rel => first | exact ⟨c + 1, g, cp, hlt, by go_num, by rw [HS2.out], by rw [HS2.out]; exact hown, hbel, HB.out⟩ | ((repeat apply Exists.intro); refine ⟨?_, ?_⟩; rotate_left; (repeat' (first | rfl | apply And.intro)); first | exact ⟨c + 1, g, cp, hlt, by go_num, by rw [HS2.out], by rw [HS2.out]; exact hown, hbel, HB.out⟩ | exact ⟨c + 1, hlt, by go_num, g, cp, by rw [HS2.out], by rw [HS2.out]; exact hown, hbel, HB.out⟩)
                case measure => simp [intOf]; omega
            · subst hkd
              have HS := Lib.hid (show specKids ns m kWrap (kids.take (c + 1)) = specKids ns m kWrap (kids.take c) ++ (if c = 0 then (liveKid ns m kids[c]).toList else []) by
                by_cases hc0 : c = 0
                · subst hc0
                  rw [if_pos rfl, single_first (.inl rfl) hlt, List.take_zero, specKids_empty]; rfl
                · rw [if_neg hc0, single_later (.inl rfl) c (by omega)]; simp)
              generalize kids[c] = q at *
              generalize specKids ns m kWrap (kids.take c) = L at *
              simp only [kWrap] at *
              by_cases hq : (m : Int) < q
              · have hq1 : decide ((m : Int) < q) = true := by simpa using hq
                cases hl : liveKid ns m q with
                | none =>
                  have HT := Lib.hid (show ∀ W, Below wr.heap.size wr W → Calls Tryd.prog 18 #[.agg #[.slice (some ⟨b, off, none⟩) ns.length cap, .slice (some ⟨gi, 0, none⟩) ns.length ns.length, .slice (some ⟨gk, 0, none⟩) ns.length ns.length], .int .i64 q] W fun e w' => e = .returned (.bool false) ∧ Below W.heap.size W w' from fun W hW => by have := HTH.out W hW hq; rw [hl] at this; exact this)
                  have HS2 := Lib.hid (show specKids ns m _ (kids.take (c + 1)) = L by rw [HS.out]; split <;> simp [*])
                  clear hl
                  go_wp2_with (go_at_call 18; refine (HT.out _ (Below.refl _ _)).mono ?_; rintro e w5 ⟨rfl, hb5⟩)
                  go_roundw
                  case rel => first | exact ⟨c + 1, g, cp, hlt, by go_num, by rw [HS2.out], by rw [HS2.out]; exact (own_below hown hb5), (hbel.trans (hb5.mono hs2)), ((hb5.block _ (lt_of_heap HB.out)).trans HB.out)⟩ | ((repeat apply Exists.intro); refine ⟨?_, ?_⟩; rotate_left; (repeat' (first | rfl | apply And.intro)); first | exact ⟨c + 1, g, cp, hlt, by go_num, by rw [HS2.out], by rw [HS2.out]; exact (own_below hown hb5), (hbel.trans (hb5.mono hs2)), ((hb5.block _ (lt_of_heap HB.out)).trans HB.out)⟩ | exact ⟨c + 1, hlt, by go_num, g, cp, by rw [HS2.out], by rw [HS2.out]; exact (own_below hown hb5), (hbel.trans (hb5.mono hs2)), ((hb5.block _ (lt_of_heap HB.out)).trans HB.out)⟩)
                  case measure => simp [intOf]; omega
                | some j =>
                  have HT := Lib.hid (show ∀ W, Below wr.heap.size wr W → Calls Tryd.prog 18 #[.agg #[.slice (some ⟨b, off, none⟩) ns.length cap, .slice (some ⟨gi, 0, none⟩) ns.length ns.length, .slice (some ⟨gk, 0, none⟩) ns.length ns.length], .int .i64 q] W fun e w' => e = .returned (.bool true) ∧ Below W.heap.size W w' from fun W hW => by have := HTH.out W hW hq; rw [hl] at this; exact this)
                  obtain rfl : q = (j : Int) := (liveKid_some hl).2.2.2
                  by_cases hc0 : c = 0
                  · have HS2 := Lib.hid (show specKids ns m _ (kids.take (c + 1)) = L ++ [j] by rw [HS.out, if_pos hc0, hl]; rfl)
                    have hc1 : ((c : Int) == 0) = true := by rw [beq_iff_eq]; omega
                    clear hl hc0
                    go_wp2_with (first | (go_at_call 18; refine (HT.out _ (Below.refl _ _)).mono ?_; rintro e w5 ⟨rfl, hb5⟩; have hown5 := own_below hown hb5; have hs5 := hb5.size) | (at_builtin; refine wpList_push rfl (.tmp 78) (.tmp 80) _ rfl elemInts rfl hown5 rfl rfl rfl (by simp [Value.oneCell']) (by omega) (by omega) ?_; intro g' cp' w' hown' hbel' hgr' hlt' hat'))
                    have hblk5 := (hb5.block _ (lt_of_heap HB.out)).trans HB.out
                    have hblk6 := (hgr'.block _ (lt_of_heap hblk5) (fun e => own_ne hown5 hblk5 (by decide) e.symm)).trans hblk5
                    go_roundw
                    case rel => first | exact ⟨c + 1, g', cp', hlt, by go_num, by rw [HS2.out]; simp, by rw [HS2.out]; simpa [asInts] using hown', (hbel.trans (hb5.mono hs2)).trans hbel', hblk6⟩ | ((repeat apply Exists.intro); refine ⟨?_, ?_⟩; rotate_left; (repeat' (first | rfl | apply And.intro)); first | exact ⟨c + 1, g', cp', hlt, by go_num, by rw [HS2.out]; simp, by rw [HS2.out]; simpa [asInts] using hown', (hbel.trans (hb5.mono hs2)).trans hbel', hblk6⟩ | exact ⟨c + 1, hlt, by go_num, g', cp', by rw [HS2.out]; simp, by rw [HS2.out]; simpa [asInts] using hown', (hbel.trans (hb5.mono hs2)).trans hbel', hblk6⟩)
                    case measure => simp [intOf]; omega
                  · have HS2 := Lib.hid (show specKids ns m _ (kids.take (c + 1)) = L by rw [HS.out, if_neg hc0]; simp)
                    have hc1 : ((c : Int) == 0) = false := by rw [beq_eq_false_iff_ne]; omega
                    clear hl hc0
                    go_wp2_with (go_at_call 18; refine (HT.out _ (Below.refl _ _)).mono ?_; rintro e w5 ⟨rfl, hb5⟩)
                    go_roundw
                    case rel => first | exact ⟨c + 1, g, cp, hlt, by go_num, by rw [HS2.out], by rw [HS2.out]; exact (own_below hown hb5), (hbel.trans (hb5.mono hs2)), ((hb5.block _ (lt_of_heap HB.out)).trans HB.out)⟩ | ((repeat apply Exists.intro); refine ⟨?_, ?_⟩; rotate_left; (repeat' (first | rfl | apply And.intro)); first | exact ⟨c + 1, g, cp, hlt, by go_num, by rw [HS2.out], by rw [HS2.out]; exact (own_below hown hb5), (hbel.trans (hb5.mono hs2)), ((hb5.block _ (lt_of_heap HB.out)).trans HB.out)⟩ | exact ⟨c + 1, hlt, by go_num, g, cp, by rw [HS2.out], by rw [HS2.out]; exact (own_below hown hb5), (hbel.trans (hb5.mono hs2)), ((hb5.block _ (lt_of_heap HB.out)).trans HB.out)⟩)
                    case measure => simp [intOf]; omega
              · have hq1 : decide ((m : Int) < q) = false := by simpa using hq
                have hl : liveKid ns m q = none := by unfold liveKid; rw [show okKid ns.length m q = false from decide_eq_false (fun h => hq h.1)]; rfl
                have HS2 := Lib.hid (show specKids ns m _ (kids.take (c + 1)) = L by rw [HS.out]; split <;> simp [*])
                clear hl
                go_wp2_with fail
                go_roundw
                case rel => first | exact ⟨c + 1, g, cp, hlt, by go_num, by rw [HS2.out], by rw [HS2.out]; exact hown, hbel, HB.out⟩ | ((repeat apply Exists.intro); refine ⟨?_, ?_⟩; rotate_left; (repeat' (first | rfl | apply And.intro)); first | exact ⟨c + 1, g, cp, hlt, by go_num, by rw [HS2.out], by rw [HS2.out]; exact hown, hbel, HB.out⟩ | exact ⟨c + 1, hlt, by go_num, g, cp, by rw [HS2.out], by rw [HS2.out]; exact hown, hbel, HB.out⟩)
                case measure => simp [intOf]; omega
            · subst hkd
              have HS := Lib.hid (show specKids ns m kAlike (kids.take (c + 1)) = specKids ns m kAlike (kids.take c) ++ (if c = 0 then (liveKid ns m kids[c]).toList else []) by
                by_cases hc0 : c = 0
                · subst hc0
                  rw [if_pos rfl, single_first (.inr (.inl rfl)) hlt, List.take_zero, specKids_empty]; rfl
                · rw [if_neg hc0, single_later (.inr (.inl rfl)) c (by omega)]; simp)
              generalize kids[c] = q at *
              generalize specKids ns m kAlike (kids.take c) = L at *
              simp only [kAlike] at *
              by_cases hq : (m : Int) < q
              · have hq1 : decide ((m : Int) < q) = true := by simpa using hq
                cases hl : liveKid ns m q with
                | none =>
                  have HT := Lib.hid (show ∀ W, Below wr.heap.size wr W → Calls Tryd.prog 18 #[.agg #[.slice (some ⟨b, off, none⟩) ns.length cap, .slice (some ⟨gi, 0, none⟩) ns.length ns.length, .slice (some ⟨gk, 0, none⟩) ns.length ns.length], .int .i64 q] W fun e w' => e = .returned (.bool false) ∧ Below W.heap.size W w' from fun W hW => by have := HTH.out W hW hq; rw [hl] at this; exact this)
                  have HS2 := Lib.hid (show specKids ns m _ (kids.take (c + 1)) = L by rw [HS.out]; split <;> simp [*])
                  clear hl
                  go_wp2_with (go_at_call 18; refine (HT.out _ (Below.refl _ _)).mono ?_; rintro e w5 ⟨rfl, hb5⟩)
                  go_roundw
                  case rel => first | exact ⟨c + 1, g, cp, hlt, by go_num, by rw [HS2.out], by rw [HS2.out]; exact (own_below hown hb5), (hbel.trans (hb5.mono hs2)), ((hb5.block _ (lt_of_heap HB.out)).trans HB.out)⟩ | ((repeat apply Exists.intro); refine ⟨?_, ?_⟩; rotate_left; (repeat' (first | rfl | apply And.intro)); first | exact ⟨c + 1, g, cp, hlt, by go_num, by rw [HS2.out], by rw [HS2.out]; exact (own_below hown hb5), (hbel.trans (hb5.mono hs2)), ((hb5.block _ (lt_of_heap HB.out)).trans HB.out)⟩ | exact ⟨c + 1, hlt, by go_num, g, cp, by rw [HS2.out], by rw [HS2.out]; exact (own_below hown hb5), (hbel.trans (hb5.mono hs2)), ((hb5.block _ (lt_of_heap HB.out)).trans HB.out)⟩)
                  case measure => simp [intOf]; omega
                | some j =>
                  have HT := Lib.hid (show ∀ W, Below wr.heap.size wr W → Calls Tryd.prog 18 #[.agg #[.slice (some ⟨b, off, none⟩) ns.length cap, .slice (some ⟨gi, 0, none⟩) ns.length ns.length, .slice (some ⟨gk, 0, none⟩) ns.length ns.length], .int .i64 q] W fun e w' => e = .returned (.bool true) ∧ Below W.heap.size W w' from fun W hW => by have := HTH.out W hW hq; rw [hl] at this; exact this)
                  obtain rfl : q = (j : Int) := (liveKid_some hl).2.2.2
                  by_cases hc0 : c = 0
                  · have HS2 := Lib.hid (show specKids ns m _ (kids.take (c + 1)) = L ++ [j] by rw [HS.out, if_pos hc0, hl]; rfl)
                    have hc1 : ((c : Int) == 0) = true := by rw [beq_iff_eq]; omega
                    clear hl hc0
                    go_wp2_with (first | (go_at_call 18; refine (HT.out _ (Below.refl _ _)).mono ?_; rintro e w5 ⟨rfl, hb5⟩; have hown5 := own_below hown hb5; have hs5 := hb5.size) | (at_builtin; refine wpList_push rfl (.tmp 78) (.tmp 80) _ rfl elemInts rfl hown5 rfl rfl rfl (by simp [Value.oneCell']) (by omega) (by omega) ?_; intro g' cp' w' hown' hbel' hgr' hlt' hat'))
                    have hblk5 := (hb5.block _ (lt_of_heap HB.out)).trans HB.out
                    have hblk6 := (hgr'.block _ (lt_of_heap hblk5) (fun e => own_ne hown5 hblk5 (by decide) e.symm)).trans hblk5
                    go_roundw
                    case rel => first | exact ⟨c + 1, g', cp', hlt, by go_num, by rw [HS2.out]; simp, by rw [HS2.out]; simpa [asInts] using hown', (hbel.trans (hb5.mono hs2)).trans hbel', hblk6⟩ | ((repeat apply Exists.intro); refine ⟨?_, ?_⟩; rotate_left; (repeat' (first | rfl | apply And.intro)); first | exact ⟨c + 1, g', cp', hlt, by go_num, by rw [HS2.out]; simp, by rw [HS2.out]; simpa [asInts] using hown', (hbel.trans (hb5.mono hs2)).trans hbel', hblk6⟩ | exact ⟨c + 1, hlt, by go_num, g', cp', by rw [HS2.out]; simp, by rw [HS2.out]; simpa [asInts] using hown', (hbel.trans (hb5.mono hs2)).trans hbel', hblk6⟩)
                    case measure => simp [intOf]; omega
                  · have HS2 := Lib.hid (show specKids ns m _ (kids.take (c + 1)) = L by rw [HS.out, if_neg hc0]; simp)
                    have hc1 : ((c : Int) == 0) = false := by rw [beq_eq_false_iff_ne]; omega
                    clear hl hc0
                    go_wp2_with (go_at_call 18; refine (HT.out _ (Below.refl _ _)).mono ?_; rintro e w5 ⟨rfl, hb5⟩)
                    go_roundw
                    case rel => first | exact ⟨c + 1, g, cp, hlt, by go_num, by rw [HS2.out], by rw [HS2.out]; exact (own_below hown hb5), (hbel.trans (hb5.mono hs2)), ((hb5.block _ (lt_of_heap HB.out)).trans HB.out)⟩ | ((repeat apply Exists.intro); refine ⟨?_, ?_⟩; rotate_left; (repeat' (first | rfl | apply And.intro)); first | exact ⟨c + 1, g, cp, hlt, by go_num, by rw [HS2.out], by rw [HS2.out]; exact (own_below hown hb5), (hbel.trans (hb5.mono hs2)), ((hb5.block _ (lt_of_heap HB.out)).trans HB.out)⟩ | exact ⟨c + 1, hlt, by go_num, g, cp, by rw [HS2.out], by rw [HS2.out]; exact (own_below hown hb5), (hbel.trans (hb5.mono hs2)), ((hb5.block _ (lt_of_heap HB.out)).trans HB.out)⟩)
                    case measure => simp [intOf]; omega
              · have hq1 : decide ((m : Int) < q) = false := by simpa using hq
                have hl : liveKid ns m q = none := by unfold liveKid; rw [show okKid ns.length m q = false from decide_eq_false (fun h => hq h.1)]; rfl
                have HS2 := Lib.hid (show specKids ns m _ (kids.take (c + 1)) = L by rw [HS.out]; split <;> simp [*])
                clear hl
                go_wp2_with fail
                go_roundw
                case rel => first | exact ⟨c + 1, g, cp, hlt, by go_num, by rw [HS2.out], by rw [HS2.out]; exact hown, hbel, HB.out⟩ | ((repeat apply Exists.intro); refine ⟨?_, ?_⟩; rotate_left; (repeat' (first | rfl | apply And.intro)); first | exact ⟨c + 1, g, cp, hlt, by go_num, by rw [HS2.out], by rw [HS2.out]; exact hown, hbel, HB.out⟩ | exact ⟨c + 1, hlt, by go_num, g, cp, by rw [HS2.out], by rw [HS2.out]; exact hown, hbel, HB.out⟩)
                case measure => simp [intOf]; omega
            · subst hkd
              have HS := Lib.hid (show specKids ns m kActs (kids.take (c + 1)) = specKids ns m kActs (kids.take c) ++ (if c = 0 then (liveKid ns m kids[c]).toList else []) by
                by_cases hc0 : c = 0
                · subst hc0
                  rw [if_pos rfl, single_first (.inr (.inr rfl)) hlt, List.take_zero, specKids_empty]; rfl
                · rw [if_neg hc0, single_later (.inr (.inr rfl)) c (by omega)]; simp)
              generalize kids[c] = q at *
              generalize specKids ns m kActs (kids.take c) = L at *
              simp only [kActs] at *
              by_cases hq : (m : Int) < q
              · have hq1 : decide ((m : Int) < q) = true := by simpa using hq
                cases hl : liveKid ns m q with
                | none =>
                  have HT := Lib.hid (show ∀ W, Below wr.heap.size wr W → Calls Tryd.prog 18 #[.agg #[.slice (some ⟨b, off, none⟩) ns.length cap, .slice (some ⟨gi, 0, none⟩) ns.length ns.length, .slice (some ⟨gk, 0, none⟩) ns.length ns.length], .int .i64 q] W fun e w' => e = .returned (.bool false) ∧ Below W.heap.size W w' from fun W hW => by have := HTH.out W hW hq; rw [hl] at this; exact this)
                  have HS2 := Lib.hid (show specKids ns m _ (kids.take (c + 1)) = L by rw [HS.out]; split <;> simp [*])
                  clear hl
                  go_wp2_with (go_at_call 18; refine (HT.out _ (Below.refl _ _)).mono ?_; rintro e w5 ⟨rfl, hb5⟩)
                  go_roundw
                  case rel => first | exact ⟨c + 1, g, cp, hlt, by go_num, by rw [HS2.out], by rw [HS2.out]; exact (own_below hown hb5), (hbel.trans (hb5.mono hs2)), ((hb5.block _ (lt_of_heap HB.out)).trans HB.out)⟩ | ((repeat apply Exists.intro); refine ⟨?_, ?_⟩; rotate_left; (repeat' (first | rfl | apply And.intro)); first | exact ⟨c + 1, g, cp, hlt, by go_num, by rw [HS2.out], by rw [HS2.out]; exact (own_below hown hb5), (hbel.trans (hb5.mono hs2)), ((hb5.block _ (lt_of_heap HB.out)).trans HB.out)⟩ | exact ⟨c + 1, hlt, by go_num, g, cp, by rw [HS2.out], by rw [HS2.out]; exact (own_below hown hb5), (hbel.trans (hb5.mono hs2)), ((hb5.block _ (lt_of_heap HB.out)).trans HB.out)⟩)
                  case measure => simp [intOf]; omega
                | some j =>
                  have HT := Lib.hid (show ∀ W, Below wr.heap.size wr W → Calls Tryd.prog 18 #[.agg #[.slice (some ⟨b, off, none⟩) ns.length cap, .slice (some ⟨gi, 0, none⟩) ns.length ns.length, .slice (some ⟨gk, 0, none⟩) ns.length ns.length], .int .i64 q] W fun e w' => e = .returned (.bool true) ∧ Below W.heap.size W w' from fun W hW => by have := HTH.out W hW hq; rw [hl] at this; exact this)
                  obtain rfl : q = (j : Int) := (liveKid_some hl).2.2.2
                  by_cases hc0 : c = 0
                  · have HS2 := Lib.hid (show specKids ns m _ (kids.take (c + 1)) = L ++ [j] by rw [HS.out, if_pos hc0, hl]; rfl)
                    have hc1 : ((c : Int) == 0) = true := by rw [beq_iff_eq]; omega
                    clear hl hc0
                    go_wp2_with (first | (go_at_call 18; refine (HT.out _ (Below.refl _ _)).mono ?_; rintro e w5 ⟨rfl, hb5⟩; have hown5 := own_below hown hb5; have hs5 := hb5.size) | (at_builtin; refine wpList_push rfl (.tmp 78) (.tmp 80) _ rfl elemInts rfl hown5 rfl rfl rfl (by simp [Value.oneCell']) (by omega) (by omega) ?_; intro g' cp' w' hown' hbel' hgr' hlt' hat'))
                    have hblk5 := (hb5.block _ (lt_of_heap HB.out)).trans HB.out
                    have hblk6 := (hgr'.block _ (lt_of_heap hblk5) (fun e => own_ne hown5 hblk5 (by decide) e.symm)).trans hblk5
                    go_roundw
                    case rel => first | exact ⟨c + 1, g', cp', hlt, by go_num, by rw [HS2.out]; simp, by rw [HS2.out]; simpa [asInts] using hown', (hbel.trans (hb5.mono hs2)).trans hbel', hblk6⟩ | ((repeat apply Exists.intro); refine ⟨?_, ?_⟩; rotate_left; (repeat' (first | rfl | apply And.intro)); first | exact ⟨c + 1, g', cp', hlt, by go_num, by rw [HS2.out]; simp, by rw [HS2.out]; simpa [asInts] using hown', (hbel.trans (hb5.mono hs2)).trans hbel', hblk6⟩ | exact ⟨c + 1, hlt, by go_num, g', cp', by rw [HS2.out]; simp, by rw [HS2.out]; simpa [asInts] using hown', (hbel.trans (hb5.mono hs2)).trans hbel', hblk6⟩)
                    case measure => simp [intOf]; omega
                  · have HS2 := Lib.hid (show specKids ns m _ (kids.take (c + 1)) = L by rw [HS.out, if_neg hc0]; simp)
                    have hc1 : ((c : Int) == 0) = false := by rw [beq_eq_false_iff_ne]; omega
                    clear hl hc0
                    go_wp2_with (go_at_call 18; refine (HT.out _ (Below.refl _ _)).mono ?_; rintro e w5 ⟨rfl, hb5⟩)
                    go_roundw
                    case rel => first | exact ⟨c + 1, g, cp, hlt, by go_num, by rw [HS2.out], by rw [HS2.out]; exact (own_below hown hb5), (hbel.trans (hb5.mono hs2)), ((hb5.block _ (lt_of_heap HB.out)).trans HB.out)⟩ | ((repeat apply Exists.intro); refine ⟨?_, ?_⟩; rotate_left; (repeat' (first | rfl | apply And.intro)); first | exact ⟨c + 1, g, cp, hlt, by go_num, by rw [HS2.out], by rw [HS2.out]; exact (own_below hown hb5), (hbel.trans (hb5.mono hs2)), ((hb5.block _ (lt_of_heap HB.out)).trans HB.out)⟩ | exact ⟨c + 1, hlt, by go_num, g, cp, by rw [HS2.out], by rw [HS2.out]; exact (own_below hown hb5), (hbel.trans (hb5.mono hs2)), ((hb5.block _ (lt_of_heap HB.out)).trans HB.out)⟩)
                    case measure => simp [intOf]; omega
              · have hq1 : decide ((m : Int) < q) = false := by simpa using hq
                have hl : liveKid ns m q = none := by unfold liveKid; rw [show okKid ns.length m q = false from decide_eq_false (fun h => hq h.1)]; rfl
                have HS2 := Lib.hid (show specKids ns m _ (kids.take (c + 1)) = L by rw [HS.out]; split <;> simp [*])
                clear hl
                go_wp2_with fail
                go_roundw
                case rel => first | exact ⟨c + 1, g, cp, hlt, by go_num, by rw [HS2.out], by rw [HS2.out]; exact hown, hbel, HB.out⟩ | ((repeat apply Exists.intro); refine ⟨?_, ?_⟩; rotate_left; (repeat' (first | rfl | apply And.intro)); first | exact ⟨c + 1, g, cp, hlt, by go_num, by rw [HS2.out], by rw [HS2.out]; exact hown, hbel, HB.out⟩ | exact ⟨c + 1, hlt, by go_num, g, cp, by rw [HS2.out], by rw [HS2.out]; exact hown, hbel, HB.out⟩)
                case measure => simp [intOf]; omega
            · have HS := Lib.hid (show specKids ns m kd (kids.take (c + 1)) = specKids ns m kd (kids.take c) by rw [specKids_none hkd, specKids_none hkd])
              obtain ⟨k1, k2, k3, k4, k5⟩ := hkd
              have n1 := toList_ne (l := [109, 97, 110, 121]) k1
              have n2 := toList_ne (l := [106, 111, 105, 110]) k2
              have n3 := toList_ne (l := [119, 114, 97, 112]) k3
              have n4 := toList_ne (l := [97, 108, 105, 107, 101]) k4
              have n5 := toList_ne (l := [97, 99, 116, 115]) k5
              clear k1 k2 k3 k4 k5
              generalize kids[c] = q at *
              generalize specKids ns m kd (kids.take c) = L at *
              by_cases hq : (m : Int) < q
              · have hq1 : decide ((m : Int) < q) = true := by simpa using hq
                cases hl : liveKid ns m q with
                | none =>
                  have HT := Lib.hid (show ∀ W, Below wr.heap.size wr W → Calls Tryd.prog 18 #[.agg #[.slice (some ⟨b, off, none⟩) ns.length cap, .slice (some ⟨gi, 0, none⟩) ns.length ns.length, .slice (some ⟨gk, 0, none⟩) ns.length ns.length], .int .i64 q] W fun e w' => e = .returned (.bool false) ∧ Below W.heap.size W w' from fun W hW => by have := HTH.out W hW hq; rw [hl] at this; exact this)
                  have HS2 := Lib.hid HS.out
                  clear hl
                  go_wp2_with (go_at_call 18; refine (HT.out _ (Below.refl _ _)).mono ?_; rintro e w5 ⟨rfl, hb5⟩)
                  go_roundw
                  case rel => first | exact ⟨c + 1, g, cp, hlt, by go_num, by rw [HS2.out], by rw [HS2.out]; exact (own_below hown hb5), (hbel.trans (hb5.mono hs2)), ((hb5.block _ (lt_of_heap HB.out)).trans HB.out)⟩ | ((repeat apply Exists.intro); refine ⟨?_, ?_⟩; rotate_left; (repeat' (first | rfl | apply And.intro)); first | exact ⟨c + 1, g, cp, hlt, by go_num, by rw [HS2.out], by rw [HS2.out]; exact (own_below hown hb5), (hbel.trans (hb5.mono hs2)), ((hb5.block _ (lt_of_heap HB.out)).trans HB.out)⟩ | exact ⟨c + 1, hlt, by go_num, g, cp, by rw [HS2.out], by rw [HS2.out]; exact (own_below hown hb5), (hbel.trans (hb5.mono hs2)), ((hb5.block _ (lt_of_heap HB.out)).trans HB.out)⟩)
                  case measure => simp [intOf]; omega
                | some j =>
                  have HT := Lib.hid (show ∀ W, Below wr.heap.size wr W → Calls Tryd.prog 18 #[.agg #[.slice (some ⟨b, off, none⟩) ns.length cap, .slice (some ⟨gi, 0, none⟩) ns.length ns.length, .slice (some ⟨gk, 0, none⟩) ns.length ns.length], .int .i64 q] W fun e w' => e = .returned (.bool true) ∧ Below W.heap.size W w' from fun W hW => by have := HTH.out W hW hq; rw [hl] at this; exact this)
                  obtain rfl : q = (j : Int) := (liveKid_some hl).2.2.2
                  have HS2 := Lib.hid HS.out
                  clear hl
                  go_wp2_with (go_at_call 18; refine (HT.out _ (Below.refl _ _)).mono ?_; rintro e w5 ⟨rfl, hb5⟩)
                  go_roundw
                  case rel => first | exact ⟨c + 1, g, cp, hlt, by go_num, by rw [HS2.out], by rw [HS2.out]; exact (own_below hown hb5), (hbel.trans (hb5.mono hs2)), ((hb5.block _ (lt_of_heap HB.out)).trans HB.out)⟩ | ((repeat apply Exists.intro); refine ⟨?_, ?_⟩; rotate_left; (repeat' (first | rfl | apply And.intro)); first | exact ⟨c + 1, g, cp, hlt, by go_num, by rw [HS2.out], by rw [HS2.out]; exact (own_below hown hb5), (hbel.trans (hb5.mono hs2)), ((hb5.block _ (lt_of_heap HB.out)).trans HB.out)⟩ | exact ⟨c + 1, hlt, by go_num, g, cp, by rw [HS2.out], by rw [HS2.out]; exact (own_below hown hb5), (hbel.trans (hb5.mono hs2)), ((hb5.block _ (lt_of_heap HB.out)).trans HB.out)⟩)
                  case measure => simp [intOf]; omega
              · have hq1 : decide ((m : Int) < q) = false := by simpa using hq
                have hl : liveKid ns m q = none := by unfold liveKid; rw [show okKid ns.length m q = false from decide_eq_false (fun h => hq h.1)]; rfl
                have HS2 := Lib.hid HS.out
                clear hl
                go_wp2_with fail
                go_roundw
                case rel => first | exact ⟨c + 1, g, cp, hlt, by go_num, by rw [HS2.out], by rw [HS2.out]; exact hown, hbel, HB.out⟩ | ((repeat apply Exists.intro); refine ⟨?_, ?_⟩; rotate_left; (repeat' (first | rfl | apply And.intro)); first | exact ⟨c + 1, g, cp, hlt, by go_num, by rw [HS2.out], by rw [HS2.out]; exact hown, hbel, HB.out⟩ | exact ⟨c + 1, hlt, by go_num, g, cp, by rw [HS2.out], by rw [HS2.out]; exact hown, hbel, HB.out⟩)
                case measure => simp [intOf]; omega
          · obtain rfl : c = kids.length := by omega
            have htk : kids.take kids.length = kids := List.take_length
            rw [htk] at hown ⊢
            have hkn : specKids ns m kd kids = kidsOf ns m := (kidsOf_spec HND.out).symm
            have hth := isThere_eq ns m _ HND.out
            rw [hkn] at hown ⊢
            clear htk hkn
            have F2 := F.out.keep hbel
            have b1 := cell_of_heap F2.blk 1 rfl
            have b2 := cell_of_heap F2.blk 2 rfl
            have d0 := cell_of_heap hblk 0 rfl
            have neK : gf ≠ gk := fun e => own_ne F2.rowK (e ▸ F2.blk) (by decide) rfl
            have neD : wo.heap.size ≠ gk := fun e => own_ne F2.rowK (e ▸ hblk) (by decide) rfl
            have neI3 : gi ≠ wo.heap.size := fun e => own_ne F2.rowI (e ▸ hblk) (by decide) (by rw [e]; rfl)
            have neI : gi ≠ gk := fun e => by
              rcases own_own_ne F2.rowI F2.rowK (by decide) with h | h
              · cases h
              · exact h (by rw [e])
            obtain ⟨_, _, hA, k0⟩ := Vals.at (k := m) (x := .slice none 0 0) (Vals.of_own F2.rowK) (by rw [rowsTo_get hmn, if_pos (Nat.lt_succ_self m)])
            cases hA
            obtain ⟨_, _, hA, i0⟩ := Vals.at (k := m) (x := .bool false) (Vals.of_own F2.rowI) (by rw [List.getElem?_map, isTo_get hmn, if_pos (Nat.lt_succ_self m)]; rfl)
            cases hA
            rw [Nat.zero_add] at k0 i0
            have k1 := F2.rowK.frozenAt m
            have i1 := F2.rowI.frozenAt m
            have hl : (kidsOf ns m).length ≤ kids.length := by rw [kidsOf_spec HND.out]; exact specKids_le
            have S0 := Lib.hid (F.out.step hmn hbel hown)
            have HTH := Lib.hid hth
            clear F2 hblk hown hth
            have neI2 : gi ≠ gf := fun e => own_ne F.out.rowI (e ▸ F.out.blk) (by decide) (by rw [e]; rfl)
            have neK' : gk ≠ gf := fun e => neK e.symm
            have neD' : gk ≠ wo.heap.size := fun e => neD e.symm
            cases hkd : kindOf kd with
            | none =>
              have hQ : isThere ns m = false := by rw [HTH.out]; simp only [hkd]
              have HKN := Lib.hid (show ∀ W, Calls Tryd.prog 29 #[.string kd] W fun e w' => e = .returned (.bool false) ∧ W = w' from fun W => by have := known_any kd W; rw [hkd] at this; exact this)
              have S1 := S0.out; rw [hQ] at S1; have S1 := Lib.hid S1
              clear hkd F hQ S0
              go_wp2_with fail
              first | (go_region_with (first | (go_at_call 29; refine (HKN.out _).mono ?_; rintro e w5 ⟨rfl, rfl⟩))) | fail
              all_goals go_wp2_with fail
              all_goals
                go_roundw
                case rel => first | exact ⟨m, _, _, by omega, by omega, rfl, S1.out.drew⟩ | ((repeat apply Exists.intro); refine ⟨?_, rfl⟩; exact ⟨m, _, _, by omega, by omega, rfl, S1.out.drew⟩)
                case measure => first | (simp [intOf]; done) | (simp [intOf]; omega)
            | some k =>
              have HKN := Lib.hid (show ∀ W, Calls Tryd.prog 29 #[.string kd] W fun e w' => e = .returned (.bool true) ∧ W = w' from fun W => by have := known_any kd W; rw [hkd] at this; exact this)
              by_cases hj : kd = kJoin
              · subst hj
                have hJ := join_there HND.out rfl
                by_cases hL : 0 < (kidsOf ns m).length
                · rw [decide_eq_true hL] at hJ
                  have hL1 : decide ((0 : Int) < ((kidsOf ns m).length : Int)) = true := by simpa using hL
                  have S1 := S0.out; rw [hJ] at S1; have S1 := Lib.hid S1
                  clear hkd F hJ S0
                  simp only [kJoin] at *
                  go_wp2_with fail
                  first | (go_region_held (fun w' => w'.cell? ⟨gf, 1, none⟩ = some (.slice (some ⟨gi, 0, none⟩) ns.length ns.length) ∧ w'.cell? ⟨wo.heap.size, 0, none⟩ = some (.string { data := #[106, 111, 105, 110] })) (go_keep) (first | (go_at_call 29; refine (HKN.out _).mono ?_; rintro e w5 ⟨rfl, rfl⟩))) | fail
                  all_goals go_wp2_with fail
                  all_goals
                    go_roundw
                    case rel => first | exact ⟨m, _, _, by omega, by omega, rfl, S1.out.drew⟩ | ((repeat apply Exists.intro); refine ⟨?_, rfl⟩; exact ⟨m, _, _, by omega, by omega, rfl, S1.out.drew⟩)
                    case measure => first | (simp [intOf]; done) | (simp [intOf]; omega)
                · rw [decide_eq_false hL] at hJ
                  have hL1 : decide ((0 : Int) < ((kidsOf ns m).length : Int)) = false := by simpa using hL
                  have S1 := S0.out; rw [hJ] at S1; have S1 := Lib.hid S1
                  clear hkd F hJ S0
                  simp only [kJoin] at *
                  go_wp2_with fail
                  first | (go_region_held (fun w' => w'.cell? ⟨gf, 1, none⟩ = some (.slice (some ⟨gi, 0, none⟩) ns.length ns.length) ∧ w'.cell? ⟨wo.heap.size, 0, none⟩ = some (.string { data := #[106, 111, 105, 110] })) (go_keep) (first | (go_at_call 29; refine (HKN.out _).mono ?_; rintro e w5 ⟨rfl, rfl⟩))) | fail
                  all_goals go_wp2_with fail
                  all_goals
                    go_roundw
                    case rel => first | exact ⟨m, _, _, by omega, by omega, rfl, S1.out.drew⟩ | ((repeat apply Exists.intro); refine ⟨?_, rfl⟩; exact ⟨m, _, _, by omega, by omega, rfl, S1.out.drew⟩)
                    case measure => first | (simp [intOf]; done) | (simp [intOf]; omega)
              · have hQ : isThere ns m = true := by
                  rw [HTH.out]; simp only [hkd]
                  have := word_of_kind hkd
                  cases k <;> first | rfl | exact absurd this hj
                have n1 := toList_ne (l := [106, 111, 105, 110]) hj
                have S1 := S0.out; rw [hQ] at S1; have S1 := Lib.hid S1
                clear hkd F hQ S0 hj
                go_wp2_with fail
                first | (go_region_held (fun w' => w'.cell? ⟨gf, 1, none⟩ = some (.slice (some ⟨gi, 0, none⟩) ns.length ns.length) ∧ w'.cell? ⟨wo.heap.size, 0, none⟩ = some (.string kd)) (go_keep) (first | (go_at_call 29; refine (HKN.out _).mono ?_; rintro e w5 ⟨rfl, rfl⟩))) | fail
                all_goals go_wp2_with fail
                all_goals
                  go_roundw
                  case rel => first | exact ⟨m, _, _, by omega, by omega, rfl, S1.out.drew⟩ | ((repeat apply Exists.intro); refine ⟨?_, rfl⟩; exact ⟨m, _, _, by omega, by omega, rfl, S1.out.drew⟩)
                  case measure => first | (simp [intOf]; done) | (simp [intOf]; omega)
end Go.Proofs.YtccoeajjomfmnaaDoor
