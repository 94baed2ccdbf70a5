/-
  The contract of the reader's method node: some node with at most three kids and a short text.
  Conditions: at most 2^20 bytes, and at most 2^39 picks before.
-/
import Derived.Test.YtccoeajjomfmnaaDoorRd
import Derived.Test.YtccoeajjomfmnaaDoorSpecMade
import Derived.Deep.DrawnRows
import Derived.Deep.RegionLaw
import Derived.Outline
namespace Go.Proofs.YtccoeajjomfmnaaDoor
open Go.RowKit Go.Lib
attribute [local go_sem ↓] Go.wp_at_zero Go.wp_at_succ

/-- The words from which a kind is drawn. -/
def kindWords : List ByteArray := [kWrap, kJoin, kMany, kValue, kWrap, kJoin, kMany, kText, kValue, kAlike, kActs, kList, ⟨#[110, 111, 110, 101]⟩, ⟨#[]⟩]
/-- The texts that are drawn. -/
def textWords : List ByteArray := [⟨#[97]⟩, ⟨#[98]⟩, ⟨#[]⟩, ⟨#[99, 10, 100]⟩, ⟨#[255, 0]⟩]
theorem textWords_short : ∀ s ∈ textWords, s.size ≤ 3 := by decide

/-- The node under way: b its block, z that of the result. -/
structure NodeSt (w : World) (g : Nat) (cv : Value) (cl : List Int) (p z b : Nat) (kd tx : ByteArray) (key : Int) (kv : Value) (ks : List Int) (wr : World) : Prop where
  gr : w.grownBy wr (some g)
  rd : Rd wr g cv cl p
  blk : wr.heap[b]? = some (.cells #[.string kd, .int .i64 key, .string tx, kv] 47 (0, 0))
  res : wr.heap[z]? = some (.cells #[.string ⟨#[]⟩, .int .i64 0, .string ⟨#[]⟩, .slice none 0 0] 47 (0, 0))
  bz : b ≠ z
  hb : w.heap.size ≤ b
  hz : w.heap.size ≤ z
  row : wr.ownsRow w.heap.size 3 1 kv ks.length (ks.map (.int .i64))

theorem NodeSt.picked {w : World} {g : Nat} {cv : Value} {cl : List Int} {p p' z b : Nat} {kd tx : ByteArray} {key : Int} {kv : Value} {ks : List Int} {wr w' : World} (h : NodeSt w g cv cl p z b kd tx key kv ks wr) (hr : Rd w' g cv cl p') (hg : wr.grownBy w' (some g)) : NodeSt w g cv cl p' z b kd tx key kv ks w' := by
  have hgz : g ≠ z := fun e => by
    have h1 := h.rd.blk
    rw [e, h.res] at h1
    injection h1 with h1
    injection h1 with _ h2
    exact absurd h2 (by decide)
  have hgb : g ≠ b := fun e => by
    have h1 := h.rd.blk
    rw [e, h.blk] at h1
    injection h1 with h1
    injection h1 with _ h2
    exact absurd h2 (by decide)
  refine ⟨grown_trans h.gr hg (fun k e => by injection e with e; exact .inl e.symm), hr, (hg.block b (lt_of_heap h.blk) (fun e => by injection e with e; exact hgb e.symm)).trans h.blk, (hg.block z (lt_of_heap h.res) (fun e => by injection e with e; exact hgz e.symm)).trans h.res, h.bz, h.hb, h.hz, h.row.kept hg ?_⟩
  exact .inr (own_ne h.row h.rd.blk (by decide))

theorem NodeSt.keep {w : World} {g : Nat} {cv : Value} {cl : List Int} {p z b : Nat} {kd tx : ByteArray} {key : Int} {kv : Value} {ks : List Int} {wr w' : World} (h : NodeSt w g cv cl p z b kd tx key kv ks wr) (hb : Below wr.heap.size wr w') : NodeSt w g cv cl p z b kd tx key kv ks w' :=
  ⟨grown_below h.gr hb, h.rd.keep hb, heap_keep hb h.blk, heap_keep hb h.res, h.bz, h.hb, h.hz, own_below h.row hb⟩

/-- One kid more. -/
theorem NodeSt.pushed {w : World} {g : Nat} {cv : Value} {cl : List Int} {p0 p z b : Nat} {kd tx : ByteArray} {key x : Int} {kv kv' : Value} {ks : List Int} {wr w' : World} (R0 : Rd w g cv cl p0) (h : NodeSt w g cv cl p z b kd tx key kv ks wr)
    (ho : w'.ownsRow w.heap.size 3 1 kv' (ks.length + 1) (ks.map (.int .i64) ++ [.int .i64 x])) (hg : wr.grownBy w' kv.ownBlock) :
    w'.cell? ⟨b, 3, none⟩ = some kv ∧ w'.frozen? ⟨b, 3, none⟩ = false ∧ NodeSt w g cv cl p z b kd tx key kv' (ks ++ [x]) (w'.setCell ⟨b, 3, none⟩ kv') := by
  have hr : ∀ k, kv.ownBlock = some k → w.heap.size ≤ k := fun k hk => (h.row.lt k hk).1
  have nb := own_ne h.row h.blk (by decide)
  have nz := own_ne h.row h.res (by decide)
  have hblk := (hg.block b (lt_of_heap h.blk) (fun e => nb e.symm)).trans h.blk
  have hres := (hg.block z (lt_of_heap h.res) (fun e => nz e.symm)).trans h.res
  have nb' := own_ne ho hblk (by decide)
  have hgs : w'.grownBy (w'.setCell ⟨b, 3, none⟩ kv') (some b) := ⟨rfl, rfl, rfl, by simp, fun k _ hk => Below.heap_setCell w' ⟨b, 3, none⟩ kv' k (fun e => hk (by rw [e]))⟩
  refine ⟨cell_of_heap hblk 3 rfl, frozen_of_heap hblk 3, ?_⟩
  have hrd := Rd.far R0 h.rd hg hr
  refine ⟨grown_trans (grown_trans h.gr hg (fun k e => .inr (hr k e))) hgs (fun k e => by injection e with e; exact .inr (by rw [← e]; exact h.hb)), Rd.far R0 hrd hgs (fun k e => by injection e with e; rw [← e]; exact h.hb), ?_, (Below.heap_setCell _ _ _ _ (fun e => h.bz e.symm)).trans hres, h.bz, h.hb, h.hz, ?_⟩
  · have := heap_setCell_same w' b 3 _ _ kv' hblk
    rw [this]
    rfl
  · have := ho.kept hgs (.inr nb')
    simpa using this

/-- What node leaves. -/
def NodeDone (w : World) (g : Nat) (cv : Value) (cl : List Int) (p : Nat) (e : Ending) (w' : World) : Prop :=
  ∃ (nd : Nd) (kv : Value) (p' : Nat), e = .returned (.agg #[.string nd.kind, .int .i64 nd.key, .string nd.text, kv]) ∧ w'.ownsRow w.heap.size 3 1 kv nd.kids.length (nd.kids.map (.int .i64)) ∧ nd.kids.length ≤ 3 ∧ nd.text.size ≤ 3 ∧ p' ≤ p + 20 ∧ Rd w' g cv cl p' ∧ w.grownBy w' (some g)

theorem NodeDone.mk {w : World} {g : Nat} {cv : Value} {cl : List Int} {p0 p z b : Nat} {kd tx : ByteArray} {key : Int} {kv x0 x1 x2 x3 : Value} {ks : List Int} {wr : World} (R0 : Rd w g cv cl p0) (h : NodeSt w g cv cl p z b kd tx key kv ks wr) (hk : ks.length ≤ 3) (ht : tx.size ≤ 3) (hp : p ≤ p0 + 20) :
    NodeDone w g cv cl p0 (.returned (.agg #[.string kd, .int .i64 key, .string tx, kv])) ((((wr.setCell ⟨z, 0, none⟩ x0).setCell ⟨z, 1, none⟩ x1).setCell ⟨z, 2, none⟩ x2).setCell ⟨z, 3, none⟩ x3) := by
  have grow : ∀ (W : World) (j : Nat) (u : Value), W.grownBy (W.setCell ⟨z, j, none⟩ u) (some z) := fun W j u => ⟨rfl, rfl, rfl, by simp, fun k _ hk => Below.heap_setCell W ⟨z, j, none⟩ u k (fun e => hk (by rw [e]))⟩
  have hz := h.hz
  have hzz : ∀ k, some z = some k → w.heap.size ≤ k := fun k e => by injection e with e; omega
  have nz := own_ne h.row h.res (by decide)
  exact ⟨⟨kd, key, tx, ks⟩, kv, p, rfl, (((h.row.kept (grow _ _ _) (.inr nz)).kept (grow _ _ _) (.inr nz)).kept (grow _ _ _) (.inr nz)).kept (grow _ _ _) (.inr nz), hk, ht, hp,
    Rd.far R0 (Rd.far R0 (Rd.far R0 (Rd.far R0 h.rd (grow _ _ _) hzz) (grow _ _ _) hzz) (grow _ _ _) hzz) (grow _ _ _) hzz,
    grown_trans (grown_trans (grown_trans (grown_trans h.gr (grow _ _ _) (fun k e => .inr (hzz k e))) (grow _ _ _) (fun k e => .inr (hzz k e))) (grow _ _ _) (fun k e => .inr (hzz k e))) (grow _ _ _) (fun k e => .inr (hzz k e))⟩

theorem pick_some (w : World) (g : Nat) (cv : Value) (cl : List Int) (p : Nat) (n : Int) (h : Rd w g cv cl p) (hp : p ≤ 1099511627776) (hn2 : n ≤ 1048576) :
    Calls Tryd.prog 46 #[.pointer (some ⟨g, 0, none⟩), .int .i64 n] w fun e w' => ∃ r : Int, 0 ≤ r ∧ r ≤ 1048576 ∧ e = .returned (.int .i64 r) ∧ Rd w' g cv cl (p + 1) ∧ w.grownBy w' (some g) := by
  refine (pick_any w g cv cl p n h hp hn2).mono ?_
  rintro e w' ⟨r, h0, h1, h2, rfl, h3, h4⟩
  refine ⟨r, h0, ?_, rfl, h3, h4⟩
  by_cases hn : 1 ≤ n
  · have := h1 hn; omega
  · have := h2 (by omega); omega

set_option maxRecDepth 100000 in
set_option maxHeartbeats 4000000 in
theorem node_any (w : World) (g : Nat) (cv : Value) (cl : List Int) (p : Nat) (at_ n : Int) (h : Rd w g cv cl p) (hp : p + 20 ≤ 1099511627776) (ha : 0 ≤ at_ ∧ at_ ≤ 100) (hn : 0 ≤ n ∧ n ≤ 100) :
    Calls Tryd.prog 47 #[.pointer (some ⟨g, 0, none⟩), .int .i64 at_, .int .i64 n] w (NodeDone w g cv cl p) := by
  have H := Lib.hid h
  have hg0 := h.lt
  clear h
  obtain ⟨ha0, ha1⟩ := ha
  obtain ⟨hn0, hn1⟩ := hn
  go_enter Tryd.func47, Tryd.ntmps47
  go_wp2_with fail
  refine (of_any _ g cv cl p _ kindWords (H.out.keep ?_) (by omega) ?_ ?_ (by decide) (by decide)).mono ?_
  · exact (below_alloc _ _).alloc (by simp) _
  · have := Vals.lit (w.alloc (.cells #[.string ⟨#[]⟩, .int .i64 0, .string ⟨#[]⟩, .slice none 0 0] 47)) (kindWords.map Value.string).toArray 9 14 rfl (by omega)
    unfold Strs
    simpa [kindWords, kWrap, kJoin, kMany, kValue, kText, kAlike, kActs, kList] using this
  · intro A m c e
    injection e with e
    injection e with e
    subst e
    show w.heap.size + 1 ≠ g
    omega
  rintro e w1 ⟨kd, _, rfl, hrd1, hgr1⟩
  have hz1 : w1.heap[w.heap.size]? = some (.cells #[.string ⟨#[]⟩, .int .i64 0, .string ⟨#[]⟩, .slice none 0 0] 47 (0, 0)) :=
    (hgr1.block w.heap.size (by simp; omega) (fun e => by injection e with e; omega)).trans ((Below.heap_alloc _ _ _ (by simp)).trans (heap_alloc_new w _))
  have hG1 : w.grownBy w1 (some g) := grown_trans (grown_of_below g ((below_alloc _ _).alloc (by simp) _)) hgr1 (fun k e => by injection e with e; exact .inl e.symm)
  have S1 := Lib.hid (And.intro hrd1 (And.intro hG1 hz1))
  clear hrd1 hgr1 hz1 hG1
  go_wp2_with fail
  refine (key_any _ g cv cl (p + 1) S1.out.1 (by omega)).mono ?_
  rintro e w2 ⟨key, p2, rfl, _, hp2, hrd2, hgr2⟩
  have hz2 := (hgr2.block w.heap.size (lt_of_heap S1.out.2.2) (fun e => by injection e with e; omega)).trans S1.out.2.2
  have hG2 := grown_trans S1.out.2.1 hgr2 (fun k e => by injection e with e; exact .inl e.symm)
  have S2 := Lib.hid (And.intro hrd2 (And.intro hG2 hz2))
  clear hrd2 hgr2 hz2 hG2 S1
  have hg2 := S2.out.1.lt
  go_wp2_with fail
  refine (of_any _ g cv cl p2 _ textWords (S2.out.1.keep (below_alloc _ _)) (by omega) ?_ ?_ (by decide) (by decide)).mono ?_
  · have := Vals.lit w2 (textWords.map Value.string).toArray 9 5 rfl (by omega)
    unfold Strs
    simpa [textWords] using this
  · intro A m c e
    injection e with e
    injection e with e
    subst e
    show w2.heap.size ≠ g
    omega
  rintro e w3 ⟨tx, htx, rfl, hrd3, hgr3⟩
  have htx3 := textWords_short tx htx
  have hz3 := (hgr3.block w.heap.size (by have := lt_of_heap S2.out.2.2; simp; omega) (fun e => by injection e with e; omega)).trans ((Below.heap_alloc _ _ _ (lt_of_heap S2.out.2.2)).trans S2.out.2.2)
  have hG3 := grown_trans (grown_below S2.out.2.1 (below_alloc _ _)) hgr3 (fun k e => by injection e with e; exact .inl e.symm)
  have hst : NodeSt w g cv cl (p2 + 1) w.heap.size w3.heap.size kd tx key (.slice none 0 0) [] (w3.alloc (.cells #[.string kd, .int .i64 key, .string tx, .slice none 0 0] 47)) :=
    ⟨grown_below hG3 (below_alloc _ _), hrd3.keep (below_alloc _ _), heap_alloc_new _ _, heap_keep (below_alloc _ _) hz3, by have := lt_of_heap hz3; omega, hG3.size, Nat.le_refl _, ⟨rfl, .inl ⟨rfl, rfl⟩⟩⟩
  have S3 := Lib.hid hst
  clear hrd3 hgr3 hz3 hG3 hst S2 htx
  go_wp2_with fail
  refine (pick_any _ g cv cl (p2 + 1) 4 S3.out.rd (by omega) (by omega)).mono ?_
  rintro e w4 ⟨r, hr0, hr1, _, rfl, hrd4, hgr4⟩
  have hr4 := hr1 (by omega)
  have hst4 := S3.out.picked hrd4 hgr4
  generalize w3.heap.size = b at *
  have S4 := Lib.hid hst4
  clear hr1 hrd4 hgr4 hst4 S3 hg2
  go_wp2_with fail
  go_loopw [8] (fun v8 wr => ∃ (k p' : Nat) (kv : Value) (ks : List Int), v8 = .int .i64 k ∧ ks.length + k ≤ 3 ∧ p' + 3 * k ≤ p + 20 ∧ NodeSt w g cv cl p' w.heap.size b kd tx key kv ks wr) (fun v8 _ => (intOf v8).toNat)
  case atStart =>
    obtain ⟨k, rfl⟩ := Int.eq_ofNat_of_zero_le hr0
    exact ⟨k, p2 + 1 + 1, .slice none 0 0, [], rfl, by simp; omega, by omega, S4.out⟩
  case round =>
    obtain ⟨k, p', kv, ks, rfl, hks, hpp, hst⟩ := hrel
    clear S4
    obtain ⟨KA, kc, hkv, _, _⟩ := (Vals.of_own hst.row).form
    rw [List.length_map] at hkv
    subst hkv
    cases k with
    | zero =>
      obtain ⟨b0, b1, b2, b3⟩ := box4 hst.blk
      obtain ⟨z0, z1, z2, z3⟩ := box4 hst.res
      have q0 := frozen_of_heap hst.res 0
      have q1 := frozen_of_heap hst.res 1
      have q2 := frozen_of_heap hst.res 2
      have q3 := frozen_of_heap hst.res 3
      have hbz := hst.bz
      have ST := Lib.hid hst
      clear hst
      have e0 : ((0 : Nat) : Int) = 0 := rfl
      rw [e0]
      clear e0
      go_wp2_with fail
      refine bodyPost_ret (v := .agg #[.string kd, .int .i64 key, .string tx, .slice KA ks.length kc]) ?_ rfl ?_
      · have hc0 := World.cell?_setCell_same wr ⟨w.heap.size, 0, none⟩ (.string kd) z0
        simp [results, Tryd.results47, go_sem, hc0, z1, z2, z3]
      · exact NodeDone.mk H.out ST.out (by omega) htx3 (by omega)
    | succ k =>
      have ST := Lib.hid hst
      have hg1 := hst.rd.lt
      clear hst
      go_wp2_with fail
      refine (pick_any _ g cv cl p' 12 ST.out.rd (by omega) (by omega)).mono ?_
      rintro e w5 ⟨r5, h50, h51, _, rfl, hrd5, hgr5⟩
      have hst5 := ST.out.picked hrd5 hgr5
      have ST := Lib.hid hst5
      have hb3 := (box4 hst5.blk).2.2.2
      have hbl := lt_of_heap hst5.blk
      have hgl := hst5.rd.lt
      clear hrd5 hgr5 hst5 h51
      by_cases hz : r5 = 0
      · subst hz
        have hb3A : ∀ o, (w5.alloc o).cell? ⟨b, 3, none⟩ = some (.slice KA ks.length kc) := fun o => cell_keep (below_alloc w5 o) hb3
        go_wp2_with fail
        have h6 : ∀ (k : Nat) (w6 : World), k < 6 → ((w5.alloc (.cells #[.int .i64 (-1), .int .i64 0, .int .i64 at_, .int .i64 n, .int .i64 9223372036854775807, .int .i64 (-9223372036854775808)] 3)).drew).grownBy w6 (some g) → ∃ x : Int, w6.cell? ⟨w5.heap.size, k, none⟩ = some (.int .i64 x) := by
          intro k w6 hk hgr
          have hb := (hgr.block w5.heap.size (by show w5.heap.size < (w5.alloc _).heap.size; simp) (fun e => by injection e with e; omega)).trans (heap_alloc_new w5 _)
          rcases (show k = 0 ∨ k = 1 ∨ k = 2 ∨ k = 3 ∨ k = 4 ∨ k = 5 by omega) with rfl | rfl | rfl | rfl | rfl | rfl
          · exact ⟨_, cell_of_heap hb 0 rfl⟩
          · exact ⟨_, cell_of_heap hb 1 rfl⟩
          · exact ⟨_, cell_of_heap hb 2 rfl⟩
          · exact ⟨_, cell_of_heap hb 3 rfl⟩
          · exact ⟨_, cell_of_heap hb 4 rfl⟩
          · exact ⟨_, cell_of_heap hb 5 rfl⟩
        have H6 := Lib.hid h6
        clear h6
        go_region_law
          (first
            | (go_simp; go_at_call 46; refine (pick_any _ g cv cl (p' + 1) 6 ((ST.out.keep (below_alloc _ _).drew).rd) (by omega) (by omega)).mono ?_; rintro e w6 ⟨r6, h60, h61, _, rfl, hrd6, hgr6⟩; have hr6 := h61 (by omega); obtain ⟨k6, rfl⟩ := Int.eq_ofNat_of_zero_le h60; obtain ⟨x6, hx6⟩ := H6.out k6 w6 (by omega) hgr6; have st6 := (ST.out.keep (below_alloc _ _).drew).picked hrd6 hgr6; have hb6 := (box4 st6.blk).2.2.2; have hb6A : ∀ o, (w6.alloc o).cell? ⟨b, 3, none⟩ = some (.slice KA ks.length kc) := (fun o => cell_keep (below_alloc w6 o) hb6); have S6 := Lib.hid st6; have hs6 := st6.gr.size; clear hrd6 hgr6 h61 st6; go_simp)
            | (refine step_push (by rfl) (.tmp 49) (.tmp 57) _ (by rfl) elemInts (by rfl) S6.out.row (by rfl) (by rfl) (by rfl) (by simp [Value.oneCell']) (by omega) hs6 ?_; intro g' cp' w7 hown7 hgr7 hlt7 hat7; obtain ⟨hb7, hf7, st7⟩ := S6.out.pushed H.out hown7 hgr7; have S7 := Lib.hid st7; clear hown7 hgr7 hlt7 hat7 st7))
        all_goals go_wp2_with fail
        all_goals
          go_roundw
          case rel => exact ⟨k, p' + 1 + 1, _, ks ++ [x6], by go_num, by simp; omega, by omega, by simpa using S7.out⟩
          case measure => simp [intOf]
      · have hz2 : (r5 == 0) = false := by simpa using hz
        go_wp2_with fail
        go_region_law
          (first
            | (go_simp; go_at_call 46; refine (pick_some _ g cv cl (p' + 1) _ ((ST.out.keep (Below.refl _ _).drew).rd) (by omega) (by first | omega | (split <;> omega) | (split <;> split <;> omega))).mono ?_; rintro e w6 ⟨r6, h60, h61, rfl, hrd6, hgr6⟩; have st6 := (ST.out.keep (Below.refl _ _).drew).picked hrd6 hgr6; have hb6 := (box4 st6.blk).2.2.2; have hb6A : ∀ o, (w6.alloc o).cell? ⟨b, 3, none⟩ = some (.slice KA ks.length kc) := (fun o => cell_keep (below_alloc w6 o) hb6); have S6 := Lib.hid st6; have hs6 := st6.gr.size; clear hrd6 hgr6 st6; go_simp)
            | (refine step_push (by rfl) (.tmp 28) (.tmp 40) _ (by rfl) elemInts (by rfl) S6.out.row (by rfl) (by rfl) (by rfl) (by simp [Value.oneCell']) (by omega) hs6 ?_; intro g' cp' w7 hown7 hgr7 hlt7 hat7; obtain ⟨hb7, hf7, st7⟩ := S6.out.pushed H.out hown7 hgr7; have S7 := Lib.hid st7; clear hown7 hgr7 hlt7 hat7 st7))
        all_goals go_wp2_with fail
        all_goals
          go_roundw
          case rel => exact ⟨k, p' + 1 + 1, _, ks ++ [IntKind.i64.wrap (IntKind.i64.wrap (at_ + 1) + r6)], by go_num, by simp; omega, by omega, by simpa using S7.out⟩
          case measure => simp [intOf]
end Go.Proofs.YtccoeajjomfmnaaDoor
