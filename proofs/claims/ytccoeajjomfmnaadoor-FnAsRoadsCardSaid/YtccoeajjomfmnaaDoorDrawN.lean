/-
  The contract of the reader's method nodes: at most eight nodes, each with at most three kids and a short text.
  Conditions: at most 2^20 bytes, and at most 2^39 picks before.
-/
import Derived.Test.YtccoeajjomfmnaaDoorNode
import Derived.Test.YtccoeajjomfmnaaDoorNodes
namespace Go.Proofs.YtccoeajjomfmnaaDoor
open Go.RowKit Go.Lib

/-- Nodes that are drawn. -/
structure Drawn8 (ns : List Nd) : Prop where
  len : ns.length ≤ 8
  kids : ∀ nd ∈ ns, nd.kids.length ≤ 3
  text : ∀ nd ∈ ns, nd.text.size ≤ 3

/-- The nodes so far. -/
structure NodesSt (w : World) (g : Nat) (cv : Value) (cl : List Int) (p : Nat) (v : Value) (ns : List Nd) (kv : Nat → Value) (wr : World) : Prop where
  gr : w.grownBy wr (some g)
  rd : Rd wr g cv cl p
  row : wr.ownsRow w.heap.size 47 4 v ns.length (nodesCells ns kv)
  kids : ∀ i nd, ns[i]? = some nd → wr.ownsRow w.heap.size 3 1 (kv i) nd.kids.length (nd.kids.map (.int .i64))
  small : Drawn8 ns

theorem nodesCells_congr : ∀ (ns : List Nd) (kv kv' : Nat → Value), (∀ i, i < ns.length → kv i = kv' i) → nodesCells ns kv = nodesCells ns kv'
  | [], _, _, _ => rfl
  | nd :: r, kv, kv', h => by
    rw [nodesCells, nodesCells, h 0 (by simp), nodesCells_congr r _ _ (fun i hi => h (i + 1) (by simpa using hi))]

theorem NodesSt.picked {w : World} {g : Nat} {cv : Value} {cl : List Int} {p p' : Nat} {v : Value} {ns : List Nd} {kv : Nat → Value} {wr w' : World} (h : NodesSt w g cv cl p v ns kv wr) (hr : Rd w' g cv cl p') (hg : wr.grownBy w' (some g)) : NodesSt w g cv cl p' v ns kv w' :=
  ⟨grown_trans h.gr hg (fun k e => by injection e with e; exact .inl e.symm), hr, h.row.kept hg (.inr (own_ne h.row h.rd.blk (by decide))), fun i nd hi => (h.kids i nd hi).kept hg (.inr (own_ne (h.kids i nd hi) h.rd.blk (by decide))), h.small⟩

/-- One node more. -/
theorem NodesSt.pushed {w : World} {g : Nat} {cv : Value} {cl : List Int} {p0 p : Nat} {v v' k' : Value} {ns : List Nd} {kv : Nat → Value} {nd : Nd} {wr w' : World} (R0 : Rd w g cv cl p0) (h : NodesSt w g cv cl p v ns kv wr)
    (ho : w'.ownsRow w.heap.size 47 4 v' (ns.length + 1) (nodesCells ns kv ++ ndCells nd k')) (hg : wr.grownBy w' v.ownBlock)
    (hk : wr.ownsRow w.heap.size 3 1 k' nd.kids.length (nd.kids.map (.int .i64))) (hs : Drawn8 (ns ++ [nd])) :
    NodesSt w g cv cl p v' (ns ++ [nd]) (fun i => if i = ns.length then k' else kv i) w' := by
  have hr : ∀ k, v.ownBlock = some k → w.heap.size ≤ k := fun k hk => (h.row.lt k hk).1
  have carry : ∀ u n xs, wr.ownsRow w.heap.size 3 1 u n xs → w'.ownsRow w.heap.size 3 1 u n xs := fun u n xs hu => hu.kept hg (own_own_ne hu h.row (by decide))
  refine ⟨grown_trans h.gr hg (fun k e => .inr (hr k e)), Rd.far R0 h.rd hg hr, ?_, fun i x hx => ?_, hs⟩
  · rw [nodesCells_snoc, List.length_append, List.length_singleton, nodesCells_congr ns _ kv (fun i hi => if_neg (by omega))]
    simpa using ho
  · by_cases hi : i = ns.length
    · subst hi
      rw [List.getElem?_append_right (Nat.le_refl _), Nat.sub_self] at hx
      simp only [List.getElem?_cons_zero, Option.some.injEq] at hx
      subst hx
      simp only [if_true]
      exact carry _ _ _ hk
    · have hin : i < ns.length := by
        rcases Nat.lt_or_ge i (ns ++ [nd]).length with h | h
        · simp at h; omega
        · rw [List.getElem?_eq_none h] at hx; cases hx
      rw [List.getElem?_append_left hin] at hx
      simp only [if_neg hi]
      exact carry _ _ _ (h.kids i x hx)

theorem Drawn8.snoc {ns : List Nd} {nd : Nd} (h : Drawn8 ns) (hl : ns.length < 8) (hk : nd.kids.length ≤ 3) (ht : nd.text.size ≤ 3) : Drawn8 (ns ++ [nd]) := by
  refine ⟨by simp; omega, fun x hx => ?_, fun x hx => ?_⟩
  · rcases List.mem_append.1 hx with hx | hx
    · exact h.kids x hx
    · rw [List.mem_singleton] at hx; subst hx; exact hk
  · rcases List.mem_append.1 hx with hx | hx
    · exact h.text x hx
    · rw [List.mem_singleton] at hx; subst hx; exact ht

/-- What nodes leaves. -/
def NodesDone (w : World) (g : Nat) (cv : Value) (cl : List Int) (p : Nat) (e : Ending) (w' : World) : Prop :=
  ∃ (v : Value) (ns : List Nd) (kv : Nat → Value) (p' : Nat), e = .returned v ∧ p' ≤ p + 200 ∧ NodesSt w g cv cl p' v ns kv w'

set_option maxRecDepth 100000 in
set_option maxHeartbeats 2000000 in
theorem nodes_any (w : World) (g : Nat) (cv : Value) (cl : List Int) (p : Nat) (h : Rd w g cv cl p) (hp : p + 200 ≤ 1099511627776) :
    Calls Tryd.prog 32 #[.pointer (some ⟨g, 0, none⟩)] w (NodesDone w g cv cl p) := by
  have H := Lib.hid h
  have hg0 := h.lt
  clear h
  go_enter Tryd.func32, Tryd.ntmps32
  go_wp2_with fail
  refine (pick_any _ g cv cl p 9 (H.out.keep (below_alloc _ _)) (by omega) (by omega)).mono ?_
  rintro e w1 ⟨r, hr0, hr1, _, rfl, hrd1, hgr1⟩
  have hr9 := hr1 (by omega)
  have hst0 : NodesSt w g cv cl p (.slice (some ⟨w.heap.size, 0, none⟩) 0 0) [] (fun _ => .nilIface) (w.alloc (.cells #[] 47)) :=
    ⟨grown_of_below g (below_alloc _ _), H.out.keep (below_alloc _ _), World.ownsRow_lit w #[] 0 (Nat.le_refl _) (by simp [maxLen]) (by simp), fun i nd h => by simp at h, ⟨by simp, by simp, by simp⟩⟩
  have S1 := Lib.hid (hst0.picked hrd1 hgr1)
  clear hr1 hrd1 hgr1 hst0
  go_wp2_with fail
  go_loopw [3, 5] (fun v3 v5 wr => ∃ (c p' gg cp : Nat) (ns : List Nd) (kv : Nat → Value), v5 = .int .i64 c ∧ (c : Int) ≤ r ∧ ns.length = c ∧ v3 = .slice (some ⟨gg, 0, none⟩) c cp ∧ p' ≤ p + 1 + 20 * c ∧ NodesSt w g cv cl p' (.slice (some ⟨gg, 0, none⟩) c cp) ns kv wr) (fun _ v5 _ => (r - intOf v5).toNat)
  case atStart => exact ⟨0, p + 1, w.heap.size, 0, [], _, rfl, hr0, rfl, rfl, by omega, S1.out⟩
  case round =>
    obtain ⟨c, p', gg, cp, ns, kv, rfl, hcr, hlen, rfl, hpp, hst⟩ := hrel
    clear S1
    have HL := Lib.hid hlen
    have hsz := hst.gr.size
    by_cases hlt : (c : Int) < r
    · have ST := Lib.hid hst
      clear hst hlen
      go_wp2_with fail
      refine (node_any _ g cv cl p' c r ST.out.rd (by omega) ⟨by omega, by omega⟩ ⟨by omega, by omega⟩).mono ?_
      rintro e w2 ⟨nd, k', p2, rfl, hrow2, hk3, ht3, hp2, hrd2, hgr2⟩
      have hst2 := ST.out.picked hrd2 hgr2
      have hk2 := World.ownsRow.mono_base hrow2 ST.out.gr.size
      have hs2 := hst2.gr.size
      obtain ⟨KA, kc, hkv, _, _⟩ := (Vals.of_own hrow2).form
      rw [List.length_map] at hkv
      subst hkv
      have S2 := Lib.hid (And.intro hst2 hk2)
      have hrw := hst2.row
      rw [HL.out] at hrw
      clear hrow2 hrd2 hgr2 hst2 hk2
      go_wp2_with (at_builtin; refine wpList_push rfl _ _ _ rfl elemSpecNode rfl hrw rfl rfl rfl (by simp [Value.oneCell']) (by omega) (by omega) ?_; intro g' cp' w3 hown3 hbel3 hgr3 hlt3 hat3)
      go_roundw
      case rel =>
        refine ⟨c + 1, p2, g', cp', ns ++ [nd], (fun i => if i = ns.length then .slice KA nd.kids.length kc else kv i), by go_num, by omega, by simp [HL.out], rfl, by omega, ?_⟩
        have hp8 : ns.length < 8 := by rw [HL.out]; omega
        have := NodesSt.pushed (v' := .slice (some ⟨g', 0, none⟩) (c + 1) cp') (nd := nd) H.out S2.out.1 (by rw [HL.out]; exact hown3) hgr3 S2.out.2 (S2.out.1.small.snoc hp8 hk3 ht3)
        exact this
      case measure => simp [intOf]; omega
    · have ST := Lib.hid hst
      clear hst hlen
      go_wp2_with fail
      go_ret
      exact ⟨_, ns, kv, p', rfl, by omega, ST.out⟩

/-- A new reader. -/
theorem Rd.new (w : World) (cv : Value) (cl : List Int) (hv : Vals w cv (cl.map (.int .u8))) (hr : ∀ c ∈ cl, 0 ≤ c ∧ c ≤ 255) (hs : cl.length ≤ 1048576) :
    Rd (w.alloc (.cells #[cv, .int .i64 0] 72)) w.heap.size cv cl 0 :=
  ⟨heap_alloc_new w _, hv.keep (below_alloc _ _), hr, hs, fun h0 => hv.off (by simpa using h0) (Nat.le_refl _)⟩

theorem NodesSt.nodes {w : World} {g : Nat} {cv : Value} {cl : List Int} {p : Nat} {v : Value} {ns : List Nd} {kv : Nat → Value} {wr : World} (h : NodesSt w g cv cl p v ns kv wr) : Nodes wr v ns kv :=
  Nodes.of_own h.row fun i nd hi => Vals.of_own (h.kids i nd hi)
end Go.Proofs.YtccoeajjomfmnaaDoor
