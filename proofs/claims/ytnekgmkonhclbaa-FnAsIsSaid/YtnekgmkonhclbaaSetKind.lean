/-
  Drawn nodes in a row of their own, in which kinds are stored; the contract of the reference's DrawAsValue that keeps that row.
  Conditions: at most 2^20 bytes.
-/
import Derived.Test.YtnekgmkonhclbaaDrawIsNil
namespace Go.Proofs.Ytnekgmkonhclbaa
open Go.RowKit Go.Lib

theorem cells_setKind : ∀ (ns : List Nd) (kv : Nat → Value) (i : Nat) (nd : Nd) (t : ByteArray), ns[i]? = some nd → (nodesCells ns kv).set (i * 4) (.string t) = nodesCells (ns.set i ⟨t, nd.key, nd.text, nd.kids⟩) kv
  | [], _, _, _, _, h => by simp at h
  | a :: r, kv, 0, nd, t, h => by
    simp only [List.getElem?_cons_zero, Option.some.injEq] at h
    subst h
    simp [nodesCells, ndCells]
  | a :: r, kv, i + 1, nd, t, h => by
    have ih := cells_setKind r (fun i => kv (i + 1)) i nd t (by simpa using h)
    have e : (i + 1) * 4 = i * 4 + 1 + 1 + 1 + 1 := by omega
    rw [e]
    simp [nodesCells, ndCells, ih]
/-- One cell of the nodes is stored. -/
theorem NodesSt.put {w : World} {g : Nat} {cv : Value} {cl : List Int} {p0 p gg cp c : Nat} {u : Value} {ns ms : List Nd} {kv kv' : Nat → Value} {wr : World} (R0 : Rd w g cv cl p0) (h : NodesSt w g cv cl p (.slice (some ⟨gg, 0, none⟩) ns.length cp) ns kv wr)
    (hc : (nodesCells ns kv).set c u = nodesCells ms kv') (hl : ms.length = ns.length) (hk : ∀ j x, ms[j]? = some x → wr.ownsRow w.heap.size 3 1 (kv' j) x.kids.length (x.kids.map (.int .i64))) (hs : Drawn8 ms) :
    NodesSt w g cv cl p (.slice (some ⟨gg, 0, none⟩) ns.length cp) ms kv' (wr.setCell ⟨gg, c, none⟩ u) := by
  have hst := h.row.stored c u
  have hr : ∀ k, some gg = some k → w.heap.size ≤ k := fun k hk => (h.row.lt k hk).1
  rw [hc] at hst
  refine ⟨grown_trans h.gr hst.2 (fun k e => .inr (hr k e)), Rd.far R0 h.rd hst.2 hr, by rw [hl]; exact hst.1, fun i x hx => ?_, hs⟩
  exact (hk i x hx).kept hst.2 (own_own_ne (hk i x hx) h.row (by decide))

theorem Drawn8.set {ns : List Nd} (h : Drawn8 ns) (i : Nat) (nd : Nd) (hk : nd.kids.length ≤ 3) (ht : nd.text.size ≤ 3) : Drawn8 (ns.set i nd) := by
  refine ⟨by rw [List.length_set]; exact h.len, fun x hx => ?_, fun x hx => ?_⟩
  · rcases List.mem_or_eq_of_mem_set hx with hx | rfl
    · exact h.kids x hx
    · exact hk
  · rcases List.mem_or_eq_of_mem_set hx with hx | rfl
    · exact h.text x hx
    · exact ht
theorem NodesSt.keepB {w : World} {g : Nat} {cv : Value} {cl : List Int} {p : Nat} {v : Value} {ns : List Nd} {kv : Nat → Value} {wr w' : World} (h : NodesSt w g cv cl p v ns kv wr) (hb : Below wr.heap.size wr w') : NodesSt w g cv cl p v ns kv w' :=
  h.picked (h.rd.keep hb) (grown_of_below g hb)
theorem NodesSt.setKind {w : World} {g : Nat} {cv : Value} {cl : List Int} {p0 p gg cp i n : Nat} {t : ByteArray} {nd : Nd} {ns : List Nd} {kv : Nat → Value} {wr : World} (R0 : Rd w g cv cl p0) (h : NodesSt w g cv cl p (.slice (some ⟨gg, 0, none⟩) n cp) ns kv wr) (hn : ns.length = n) (hi : ns[i]? = some nd) :
    NodesSt w g cv cl p (.slice (some ⟨gg, 0, none⟩) n cp) (ns.set i ⟨t, nd.key, nd.text, nd.kids⟩) kv (wr.setCell ⟨gg, i * 4, none⟩ (.string t)) := by
  subst hn
  have hm := List.mem_of_getElem? hi
  refine h.put R0 (cells_setKind ns kv i nd t hi) (by simp) (fun j x hx => ?_) (h.small.set i _ (h.small.kids nd hm) (h.small.text nd hm))
  by_cases e : j = i
  · subst e
    rw [List.getElem?_set_self (List.getElem?_eq_some_iff.1 hi).1] at hx
    injection hx with hx
    subst hx
    exact h.kids j nd hi
  · rw [List.getElem?_set_ne (fun h => e h.symm)] at hx
    exact h.kids j x hx

/-- Drawn nodes in a row of their own. -/
def DrewSt (w : World) (e : Ending) (w' : World) : Prop := ∃ v ns kv cv cl p o, e = .returned v ∧ Rd (w.alloc o) w.heap.size cv cl 0 ∧ NodesSt (w.alloc o) w.heap.size cv cl p v ns kv w'

set_option maxHeartbeats 1000000 in
theorem drawIsNil_st (w : World) (cv : Value) (cl : List Int) (hv : Vals w cv (cl.map (.int .u8))) (hr : ∀ c ∈ cl, 0 ≤ c ∧ c ≤ 255) (hs : cl.length ≤ 1048576) :
    Calls Try.prog 30 #[cv] w (DrewSt w) := by
  have HR := Lib.hid (Rd.new w cv cl hv hr hs)
  obtain ⟨A, cap, hcv, _, _⟩ := hv.form
  rw [List.length_map] at hcv
  subst hcv
  clear hv hr
  go_enter Try.func30, Try.ntmps30
  go_wp2_with fail
  refine (nodes_any _ w.heap.size _ cl 0 HR.out (by omega)).mono ?_
  rintro e w1 ⟨v, ns, kv, p', rfl, _, hst⟩
  have HS := Lib.hid hst
  obtain ⟨B, capB, rfl, _, _⟩ := hst.nodes.form
  clear hst
  go_wp2_with fail
  go_ret
  exact ⟨_, ns, kv, _, _, _, _, rfl, HR.out, HS.out⟩

set_option maxHeartbeats 1000000 in
theorem drawAsValue_st (w : World) (cv : Value) (cl : List Int) (hv : Vals w cv (cl.map (.int .u8))) (hr : ∀ c ∈ cl, 0 ≤ c ∧ c ≤ 255) (hs : cl.length ≤ 1048576) :
    Calls Try.prog 11 #[cv] w (DrewSt w) := by
  have HD := Lib.hid (drawIsNil_st w cv cl hv hr hs)
  obtain ⟨A, cap, hcv, _, _⟩ := hv.form
  rw [List.length_map] at hcv
  subst hcv
  clear hv hr
  go_enter Try.func11, Try.ntmps11
  go_wp2_with fail
  refine HD.out.mono ?_
  rintro e w1 ⟨v, ns, kv, cv2, cl2, p, o, rfl, hrd, hst⟩
  have HS := Lib.hid (And.intro hrd hst)
  obtain ⟨B, capB, rfl, _, _⟩ := hst.nodes.form
  clear hst hrd
  go_wp2_with fail
  go_ret
  exact ⟨_, ns, kv, _, _, _, _, rfl, HS.out.1, HS.out.2⟩
end Go.Proofs.Ytnekgmkonhclbaa
