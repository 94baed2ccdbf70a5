/-
  The contract of the reference's DrawUnwrapChain: some small nodes.
  Conditions: at most 2^20 bytes.
-/
import Derived.Test.YtlobmpfgimdpgaaDrawIsNil
namespace Go.Proofs.Ytlobmpfgimdpgaa
open Go.RowKit Go.Lib

theorem cells_setKind : ∀ (ns : List Nd) (kv : Nat → Value) (i : Nat) (nd : Nd) (t : ByteArray), ns[i]? = some nd → (nodesCells ns kv).set (i * 4) (.string t) = nodesCells (ns.set i ⟨t, nd.key, nd.text, nd.kids⟩) kv
  | [], _, _, _, _, h => by simp at h
  | a :: r, kv, 0, nd, t, h => by
    simp only [List.getElem?_cons_zero, Option.some.injEq] at h
    subst h
    simp [nodesCells, ndCells]
  | a :: r, kv, i + 1, nd, t, h => by
    have ih := cells_setKind r (fun i => kv (i + 1)) i nd t (by simpa using h)
    have e : (i + 1) * 4 = i * 4 + 1 + 1 + 1 + 1 := by omega
    rw [e]
    simp [nodesCells, ndCells, ih]
theorem cells_setKids : ∀ (ns : List Nd) (kv : Nat → Value) (i : Nat) (nd : Nd) (u : Value) (ks : List Int), ns[i]? = some nd → (nodesCells ns kv).set (i * 4 + 3) u = nodesCells (ns.set i ⟨nd.kind, nd.key, nd.text, ks⟩) (fun j => if j = i then u else kv j)
  | [], _, _, _, _, _, h => by simp at h
  | a :: r, kv, 0, nd, u, ks, h => by
    simp only [List.getElem?_cons_zero, Option.some.injEq] at h
    subst h
    simp [nodesCells, ndCells]
  | a :: r, kv, i + 1, nd, u, ks, h => by
    have ih := cells_setKids r (fun i => kv (i + 1)) i nd u ks (by simpa using h)
    have e : (i + 1) * 4 + 3 = (i * 4 + 3) + 1 + 1 + 1 + 1 := by omega
    rw [e]
    simp [nodesCells, ndCells, ih]

/-- One cell of the nodes is stored. -/
theorem NodesSt.put {w : World} {g : Nat} {cv : Value} {cl : List Int} {p0 p gg cp c : Nat} {u : Value} {ns ms : List Nd} {kv kv' : Nat → Value} {wr : World} (R0 : Rd w g cv cl p0) (h : NodesSt w g cv cl p (.slice (some ⟨gg, 0, none⟩) ns.length cp) ns kv wr)
    (hc : (nodesCells ns kv).set c u = nodesCells ms kv') (hl : ms.length = ns.length) (hk : ∀ j x, ms[j]? = some x → wr.ownsRow w.heap.size 3 1 (kv' j) x.kids.length (x.kids.map (.int .i64))) (hs : Drawn8 ms) :
    NodesSt w g cv cl p (.slice (some ⟨gg, 0, none⟩) ns.length cp) ms kv' (wr.setCell ⟨gg, c, none⟩ u) := by
  have hst := h.row.stored c u
  have hr : ∀ k, some gg = some k → w.heap.size ≤ k := fun k hk => (h.row.lt k hk).1
  rw [hc] at hst
  refine ⟨grown_trans h.gr hst.2 (fun k e => .inr (hr k e)), Rd.far R0 h.rd hst.2 hr, by rw [hl]; exact hst.1, fun i x hx => ?_, hs⟩
  exact (hk i x hx).kept hst.2 (own_own_ne (hk i x hx) h.row (by decide))

theorem Drawn8.set {ns : List Nd} (h : Drawn8 ns) (i : Nat) (nd : Nd) (hk : nd.kids.length ≤ 3) (ht : nd.text.size ≤ 3) : Drawn8 (ns.set i nd) := by
  refine ⟨by rw [List.length_set]; exact h.len, fun x hx => ?_, fun x hx => ?_⟩
  · rcases List.mem_or_eq_of_mem_set hx with hx | rfl
    · exact h.kids x hx
    · exact hk
  · rcases List.mem_or_eq_of_mem_set hx with hx | rfl
    · exact h.text x hx
    · exact ht
theorem NodesSt.keepB {w : World} {g : Nat} {cv : Value} {cl : List Int} {p : Nat} {v : Value} {ns : List Nd} {kv : Nat → Value} {wr w' : World} (h : NodesSt w g cv cl p v ns kv wr) (hb : Below wr.heap.size wr w') : NodesSt w g cv cl p v ns kv w' :=
  h.picked (h.rd.keep hb) (grown_of_below g hb)
theorem NodesSt.setKind {w : World} {g : Nat} {cv : Value} {cl : List Int} {p0 p gg cp i n : Nat} {t : ByteArray} {nd : Nd} {ns : List Nd} {kv : Nat → Value} {wr : World} (R0 : Rd w g cv cl p0) (h : NodesSt w g cv cl p (.slice (some ⟨gg, 0, none⟩) n cp) ns kv wr) (hn : ns.length = n) (hi : ns[i]? = some nd) :
    NodesSt w g cv cl p (.slice (some ⟨gg, 0, none⟩) n cp) (ns.set i ⟨t, nd.key, nd.text, nd.kids⟩) kv (wr.setCell ⟨gg, i * 4, none⟩ (.string t)) := by
  subst hn
  have hm := List.mem_of_getElem? hi
  refine h.put R0 (cells_setKind ns kv i nd t hi) (by simp) (fun j x hx => ?_) (h.small.set i _ (h.small.kids nd hm) (h.small.text nd hm))
  by_cases e : j = i
  · subst e
    rw [List.getElem?_set_self (List.getElem?_eq_some_iff.1 hi).1] at hx
    injection hx with hx
    subst hx
    exact h.kids j nd hi
  · rw [List.getElem?_set_ne (fun h => e h.symm)] at hx
    exact h.kids j x hx
theorem NodesSt.setKids {w : World} {g : Nat} {cv : Value} {cl : List Int} {p0 p gg cp i n : Nat} {u : Value} {ks : List Int} {nd : Nd} {ns : List Nd} {kv : Nat → Value} {wr : World} (R0 : Rd w g cv cl p0) (h : NodesSt w g cv cl p (.slice (some ⟨gg, 0, none⟩) n cp) ns kv wr) (hn : ns.length = n) (hi : ns[i]? = some nd)
    (hu : wr.ownsRow w.heap.size 3 1 u ks.length (ks.map (.int .i64))) (hks : ks.length ≤ 3) :
    NodesSt w g cv cl p (.slice (some ⟨gg, 0, none⟩) n cp) (ns.set i ⟨nd.kind, nd.key, nd.text, ks⟩) (fun j => if j = i then u else kv j) (wr.setCell ⟨gg, i * 4 + 3, none⟩ u) := by
  subst hn
  have hm := List.mem_of_getElem? hi
  refine h.put R0 (cells_setKids ns kv i nd u ks hi) (by simp) (fun j x hx => ?_) (h.small.set i _ hks (h.small.text nd hm))
  by_cases e : j = i
  · subst e
    rw [List.getElem?_set_self (List.getElem?_eq_some_iff.1 hi).1] at hx
    injection hx with hx
    subst hx
    simp only [if_true]
    exact hu
  · rw [List.getElem?_set_ne (fun h => e h.symm)] at hx
    simp only [if_neg e]
    exact h.kids j x hx

set_option maxRecDepth 100000 in
set_option maxHeartbeats 2000000 in
theorem drawUnwrapChain_any (w : World) (cv : Value) (cl : List Int) (hv : Vals w cv (cl.map (.int .u8))) (hr : ∀ c ∈ cl, 0 ≤ c ∧ c ≤ 255) (hs : cl.length ≤ 1048576) :
    Calls Try.prog 33 #[cv] w (DrewNodes w) := by
  have HR := Lib.hid (Rd.new w cv cl hv hr hs)
  obtain ⟨A, cap, hcv, _, _⟩ := hv.form
  rw [List.length_map] at hcv
  subst hcv
  clear hv hr
  go_enter Try.func33, Try.ntmps33
  go_wp2_with fail
  refine (nodes_any _ w.heap.size _ cl 0 HR.out (by omega)).mono ?_
  rintro e w1 ⟨v, ns, kv, p', rfl, hp', hst⟩
  have hN8 := hst.small.len
  have HS := Lib.hid hst
  obtain ⟨B, capB, rfl, _, _⟩ := hst.nodes.form
  clear hst
  go_wp2_with fail
  go_loopw [13] (fun v13 wr => ∃ (c q : Nat) (ms : List Nd) (kw : Nat → Value), c ≤ ns.length ∧ v13 = .int .i64 c ∧ ms.length = ns.length ∧ q ≤ p' + 2 * c ∧ NodesSt (w.alloc (.cells #[.slice A cl.length cap, .int .i64 0] 81)) w.heap.size (.slice A cl.length cap) cl q (.slice B ns.length capB) ms kw wr) (fun v13 _ => ns.length - (intOf v13).toNat)
  case atStart => exact ⟨0, p', ns, kv, Nat.zero_le _, rfl, rfl, by omega, HS.out⟩
  case round =>
    obtain ⟨c, q, ms, kw, hc, rfl, hml, hq, hst⟩ := hrel
    clear HS
    by_cases hlt : c < ns.length
    · have hrow := hst.row
      rw [hml] at hrow
      obtain ⟨gg, cp, e, hgg, hgl⟩ := hrow.form (by omega)
      injection e with e1 _ e3
      subst e1 e3
      have hgn : ms[c]? = some ms[c] := List.getElem?_eq_getElem (by omega)
      generalize ms[c] = nd at hgn
      have ST := Lib.hid hst
      have HM := Lib.hid (And.intro hml hgn)
      clear hst hrow hml hgn
      go_wp2_with fail
      refine (pick_any _ w.heap.size _ cl q 3 ST.out.rd (by omega) (by omega)).mono ?_
      rintro e w2 ⟨r, hr0, hr1, _, rfl, hrd2, hgr2⟩
      have hgl2 := Nat.lt_of_lt_of_le hgl hgr2.size
      have ST2 := Lib.hid (ST.out.picked hrd2 hgr2)
      clear hrd2 hgr2 hr1 ST
      by_cases hz : 0 < r
      · have hwl : w.heap.size < w2.heap.size := ST2.out.rd.lt
        have HO := Lib.hid (of_any (w2.alloc (.cells #[.string kWrap, .string kWrap, .string kAlike, .string kActs] 9)) w.heap.size _ cl (q + 1) (.slice (some ⟨w2.heap.size, 0, none⟩) 4 4) [kWrap, kWrap, kAlike, kActs] (ST2.out.rd.keep (below_alloc _ _)) (by omega) (Vals.lit w2 #[.string kWrap, .string kWrap, .string kAlike, .string kActs] 9 4 rfl (by omega)) (fun A' n' c' e => by injection e with e; injection e with e; subst e; show w2.heap.size ≠ w.heap.size; omega) (by simp) (by simp))
        simp only [kWrap, kAlike, kActs] at HO
        go_wp2_with fail
        refine HO.out.mono ?_
        rintro e w3 ⟨s, _, rfl, hrd3, hgr3⟩
        have st3 := (ST2.out.keepB (below_alloc w2 _)).picked hrd3 hgr3
        have hgl3 : gg < w3.heap.size := Nat.lt_of_lt_of_le (Nat.lt_trans hgl2 (by simp)) hgr3.size
        clear hrd3 hgr3 HO ST2
        obtain ⟨b, off, KA, kc, e, hkw, n0, _, _, n3, _, _⟩ := st3.nodes.at HM.out.2
        injection e with e
        injection e with e1 e2
        subst e1 e2
        simp only [Nat.zero_add] at n0 n3
        have hro := st3.row
        rw [HM.out.1] at hro
        have f0 := hro.frozenAt (c * 4)
        clear hro
        have st4 := st3.setKind (t := s) HR.out HM.out.1 HM.out.2
        have hgn4 : (ms.set c ⟨s, nd.key, nd.text, nd.kids⟩)[c]? = some ⟨s, nd.key, nd.text, nd.kids⟩ := List.getElem?_set_self (by rw [HM.out.1]; exact hlt)
        have hro4 := st4.row
        rw [List.length_set, HM.out.1] at hro4
        have f3 := hro4.frozenAt (c * 4 + 3)
        obtain ⟨b, off, KA2, kc2, e, hkw2, _, _, _, m3, _, _⟩ := st4.nodes.at hgn4
        injection e with e
        injection e with e1 e2
        subst e1 e2
        simp only [Nat.zero_add] at m3
        have hgl4 : gg < (w3.setCell ⟨gg, c * 4, none⟩ (.string s)).heap.size := by simpa using hgl3
        have hs4 : (w3.setCell ⟨gg, c * 4, none⟩ (.string s)).heap.size = w3.heap.size := by simp
        have m3A : ∀ o, ((w3.setCell ⟨gg, c * 4, none⟩ (.string s)).alloc o).cell? ⟨gg, c * 4 + 3, none⟩ = some (.slice KA2 nd.kids.length kc2) := fun o => cell_keep (below_alloc _ o) m3
        have f3A : ∀ o, ((w3.setCell ⟨gg, c * 4, none⟩ (.string s)).alloc o).frozen? ⟨gg, c * 4 + 3, none⟩ = false := fun o => by rw [World.frozen?_alloc_old _ _ _ (by show gg ≠ _; omega)]; exact f3
        have hlit := World.ownsRow_lit (base := (w.alloc (.cells #[.slice A cl.length cap, .int .i64 0] 81)).heap.size) (e := 3) (size := 1) (w3.setCell ⟨gg, c * 4, none⟩ (.string s)) #[.int .i64 ((c : Int) + 1)] 1 (by rw [hs4]; exact st3.gr.size) (by simp [maxLen]) (by simp)
        have st5 := (st4.keepB (below_alloc _ (.cells #[.int .i64 ((c : Int) + 1)] 3))).setKids (ks := [(c : Int) + 1]) HR.out (by rw [List.length_set]; exact HM.out.1) hgn4 (by simpa using hlit) (by simp)
        rw [World.setCell_alloc_past _ _ _ _ hgl4] at st5
        have S5 := Lib.hid st5
        clear st3 st4 st5 hlit hro4 hgn4 f3 m3 hkw hkw2
        go_wp2_with fail
        go_roundw
        case rel => exact ⟨c + 1, q + 2, _, _, hlt, by go_num, by simp [HM.out.1], by omega, S5.out⟩
        case measure => simp [intOf]; omega
      · obtain rfl : r = 0 := by omega
        go_wp2_with fail
        go_roundw
        case rel => exact ⟨c + 1, q + 1, ms, kw, hlt, by go_num, HM.out.1, by omega, ST2.out⟩
        case measure => simp [intOf]; omega
    · obtain rfl : c = ns.length := by omega
      have ST := Lib.hid hst
      clear hst
      go_wp2_with fail
      go_ret
      exact ⟨_, ms, kw, rfl, ST.out.nodes, ST.out.small, below_of_grown (below_alloc _ _) ST.out.gr (Nat.le_refl _)⟩
end Go.Proofs.Ytlobmpfgimdpgaa
