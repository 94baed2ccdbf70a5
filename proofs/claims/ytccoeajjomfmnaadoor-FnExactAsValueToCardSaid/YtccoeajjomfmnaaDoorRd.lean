/-
  How a reader is kept, an append at a step of a region that draws its order, and the contract of the reader's method key.
  Conditions: at most 2^20 bytes, and at most 2^40 picks before.
-/
import Derived.Test.YtccoeajjomfmnaaDoorOf
import Derived.Test.YtccoeajjomfmnaaDoorMem2
import Derived.Deep.RegionHeld3
namespace Go.Proofs.YtccoeajjomfmnaaDoor
open Go.RowKit Go.Lib

/-- 'out = append(out, x)' at a step of a region that draws its order. -/
theorem step_push {P : Program} {w : World} {ops : Array Oper} {o : Oper} {a : Act} {K : Act → World → Prop} {Q : Exit → Act → World → Prop} {E : Prop} (hgd : o.guard = none) (s x : Operand) (t : TypeId)
    (ho : o.op = .call { callee := .builtin .append, args := #[s, x], argTypes := #[t, t] })
    {base : Nat} {e : TypeId} {size bytes : Nat} (El : Elem P t e size bytes) {v : Value} {n : Nat} {xs : List Value} (hs : a.eval s = v) (hown : w.ownsRow base e size v n xs)
    {cs : Array Value} {H : Nat} (hx : a.eval x = .slice (some ⟨H, 0, none⟩) 1 1) (hH : w.heap.size = H) (hl : cs.size = size) (h1 : ∀ u ∈ cs.toList, u.oneCell' = true)
    (hbytes : (n + 1) * bytes ≤ 140737488355328) (hbase : base ≤ w.heap.size)
    (h : ∀ g cap w', w'.ownsRow base e size (.slice (some ⟨g, 0, none⟩) (n + 1) cap) (n + 1) (xs ++ cs.toList) → w.grownBy w' v.ownBlock → g < w'.heap.size → (v.ownBlock = some g ∨ w.heap.size ≤ g) → K (a.put o.dst (.slice (some ⟨g, 0, none⟩) (n + 1) cap)) w') :
    if Region.wanted o (yielded ops a.tmps) = true then Oper.wp P o a (w.alloc (.cells cs e)) K Q else E := by
  subst hH
  obtain ⟨ht, hsz, hb0, i, z, hi, hz, hsize, hby, hzs⟩ := El
  have hn1 : n + 1 ≤ 140737488355328 := Nat.le_trans (Nat.le_mul_of_pos_right _ hb0) hbytes
  refine step_append_lies (w.alloc (.cells cs e)) hgd s x t ho base e i z size bytes ht hi hz hsize hby hzs hsz v n xs hs (hown.alloc _) ⟨w.heap.size, 0, none⟩ 1 1 cs.toList hx (by simp [hl]) ?_ h1 (by omega) (by simp only [maxLen]; omega) hbytes (by simp; omega) (w.heap.size + 1) (by simp) ?_
  · exact World.news_of_block (heap_alloc_new w _)
  · intro g cap w' h2 h3 h4 h5
    have hg : w.grownBy w' v.ownBlock := ⟨h3.os, h3.tape, h3.output, Nat.le_trans (by simp) h3.size, fun k hk hne => (h3.block k (by simp; omega) hne).trans (Below.heap_alloc w _ k hk)⟩
    refine h g cap w' h2 hg h5 ?_
    rcases h4 with h4 | h4
    · exact .inl h4
    · exact .inr (by omega)

theorem grown_of_below {w w' : World} (g : Nat) (h : Below w.heap.size w w') : w.grownBy w' (some g) := ⟨h.os, h.tape, h.output, h.size, fun k hk _ => h.block k hk⟩
theorem grown_refl (w : World) (g : Nat) : w.grownBy w (some g) := grown_of_below g (Below.refl _ _)
theorem grown_trans {w w1 w2 : World} {g : Nat} {row : Option Nat} (h : w.grownBy w1 (some g)) (h2 : w1.grownBy w2 row) (hr : ∀ k, row = some k → k = g ∨ w.heap.size ≤ k) : w.grownBy w2 (some g) :=
  ⟨h2.os.trans h.os, h2.tape.trans h.tape, h2.output.trans h.output, Nat.le_trans h.size h2.size, fun k hk hne => (h2.block k (Nat.lt_of_lt_of_le hk h.size) (fun e => by rcases hr k e.symm with e2 | e2; exact hne (by rw [e2]); omega)).trans (h.block k hk hne)⟩
theorem grown_below {w w1 w2 : World} {g : Nat} (h : w.grownBy w1 (some g)) (h2 : Below w1.heap.size w1 w2) : w.grownBy w2 (some g) := grown_trans h (grown_of_below g h2) (fun k e => by injection e with e; exact .inl e.symm)
theorem below_of_grown {w w1 w2 : World} {g : Nat} (h : Below w.heap.size w w1) (h2 : w1.grownBy w2 (some g)) (hg : w.heap.size ≤ g) : Below w.heap.size w w2 :=
  ⟨h2.os.trans h.os, h2.tape.trans h.tape, h2.output.trans h.output, Nat.le_trans h.size h2.size, fun k hk => (h2.block k (Nat.lt_of_lt_of_le hk h.size) (fun e => by injection e with e; omega)).trans (h.block k hk)⟩

theorem Rd.lt {w : World} {g : Nat} {cv : Value} {cl : List Int} {p : Nat} (h : Rd w g cv cl p) : g < w.heap.size := lt_of_heap h.blk
theorem Rd.keep {w w' : World} {g : Nat} {cv : Value} {cl : List Int} {p : Nat} (h : Rd w g cv cl p) (hb : Below w.heap.size w w') : Rd w' g cv cl p := ⟨heap_keep hb h.blk, h.bytes.keep hb, h.range, h.small, h.apart⟩
/-- A reader is kept where a later row is written. -/
theorem Rd.far {w wr w' : World} {g : Nat} {cv : Value} {cl : List Int} {p0 p : Nat} {row : Option Nat} (h0 : Rd w g cv cl p0) (h : Rd wr g cv cl p) (hg : wr.grownBy w' row) (hr : ∀ k, row = some k → w.heap.size ≤ k) : Rd w' g cv cl p := by
  have hlt := h0.lt
  refine ⟨(hg.block g h.lt (fun e => by have := hr g e.symm; omega)).trans h.blk, ?_, h.range, h.small, h.apart⟩
  obtain ⟨A, cap, e, h1, h2, h3⟩ := h.bytes
  refine ⟨A, cap, e, h1, h2, fun hp => ?_⟩
  obtain ⟨b, off, rfl, hc⟩ := h3 hp
  refine ⟨b, off, rfl, fun j u hu => ?_⟩
  have hcell := hc j u hu
  rw [hg.cell_far ⟨b, off + j, none⟩ (lt_of_cell hcell) (fun e2 => ?_)]
  · exact hcell
  · have := hr b e2.symm
    exact h0.bytes.off hp this _ _ _ e rfl

/-- What key leaves. -/
def Keyed (w : World) (g : Nat) (cv : Value) (cl : List Int) (p : Nat) (e : Ending) (w' : World) : Prop := ∃ (key : Int) (p' : Nat), e = .returned (.int .i64 key) ∧ key ≠ 9 ∧ p' ≤ p + 2 ∧ Rd w' g cv cl p' ∧ w.grownBy w' (some g)

set_option maxHeartbeats 1000000 in
theorem key_any (w : World) (g : Nat) (cv : Value) (cl : List Int) (p : Nat) (h : Rd w g cv cl p) (hp : p + 1 ≤ 1099511627776) :
    Calls Tryd.prog 33 #[.pointer (some ⟨g, 0, none⟩)] w (Keyed w g cv cl p) := by
  have H := Lib.hid h
  clear h
  go_enter Tryd.func33, Tryd.ntmps33
  go_wp2_with fail
  refine (pick_any _ g cv cl p 8 H.out (by omega) (by omega)).mono ?_
  rintro e w1 ⟨r, hr0, hr1, _, rfl, hrd, hgr⟩
  have HR := Lib.hid (And.intro hrd hgr)
  clear hrd hgr hr1
  by_cases hz : r = 0
  · subst hz
    go_wp2_with fail
    refine (pick_any _ g cv cl (p + 1) 3 (HR.out.1.keep (below_alloc _ _)) (by omega) (by omega)).mono ?_
    rintro e w2 ⟨r2, hr20, hr21, _, rfl, hrd2, hgr2⟩
    have hr2 := hr21 (by omega)
    have hg1 : g < w1.heap.size := HR.out.1.lt
    have hb := (hgr2.block w1.heap.size (by simp) (fun e => by injection e with e; omega)).trans (heap_alloc_new w1 _)
    obtain ⟨k, rfl⟩ := Int.eq_ofNat_of_zero_le hr20
    have hk : k < 3 := by omega
    obtain ⟨x, hx9, hx⟩ : ∃ x : Int, x ≠ 9 ∧ w2.cell? ⟨w1.heap.size, k, none⟩ = some (.int .i64 x) := by
      rcases (show k = 0 ∨ k = 1 ∨ k = 2 by omega) with rfl | rfl | rfl
      · exact ⟨_, by decide, cell_of_heap hb 0 rfl⟩
      · exact ⟨_, by decide, cell_of_heap hb 1 rfl⟩
      · exact ⟨_, by decide, cell_of_heap hb 2 rfl⟩
    have HR2 := Lib.hid (And.intro hrd2 (grown_trans (grown_below HR.out.2 (below_alloc _ _)) hgr2 (fun k e => by injection e with e; exact .inl e.symm)))
    clear hb hrd2 hgr2 hr21
    go_wp2_with fail
    go_ret
    exact ⟨x, p + 1 + 1, rfl, hx9, by omega, HR2.out.1, HR2.out.2⟩
  · have hz2 : (r == 0) = false := by simpa using hz
    go_wp2_with fail
    refine (pick_any _ g cv cl (p + 1) 3 HR.out.1 (by omega) (by omega)).mono ?_
    rintro e w2 ⟨r2, hr20, hr21, _, rfl, hrd2, hgr2⟩
    have HR2 := Lib.hid (And.intro hrd2 (grown_trans HR.out.2 hgr2 (fun k e => by injection e with e; exact .inl e.symm)))
    have hr23 := hr21 (by omega)
    clear hrd2 hgr2 hr21
    go_wp2_with fail
    go_ret
    exact ⟨r2, p + 1 + 1, rfl, by omega, by omega, HR2.out.1, HR2.out.2⟩
end Go.Proofs.YtccoeajjomfmnaaDoor
