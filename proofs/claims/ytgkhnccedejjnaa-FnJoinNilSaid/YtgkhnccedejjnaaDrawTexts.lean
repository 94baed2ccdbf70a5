/-
  The contract of spec.DrawJoinTexts: some texts, at most five of at most three bytes, and some truths.
  Conditions: at most 2^20 bytes.
-/
import Derived.Test.YtgkhnccedejjnaaOf
import Derived.Test.YtgkhnccedejjnaaKept
namespace Go.Proofs.Ytgkhnccedejjnaa
open Go.RowKit Go.Lib

theorem elemBool : Elem Try.prog 26 4 1 1 := Elem.mk Try.underlying26 (z := .bool false) (by kernel_rfl) rfl (by decide) (by decide)

/-- A world in which texts and truths are being drawn. -/
structure DT (w : World) (cv : Value) (wr : World) (p gt ct gn cn : Nat) (ts : List ByteArray) (bs : List Bool) : Prop where
  bel : Below w.heap.size w wr
  blk : wr.heap[w.heap.size]? = some (.cells #[cv, .int .i64 p] 45 (0, 0))
  rowT : wr.ownsRow w.heap.size 9 1 (.slice (some ⟨gt, 0, none⟩) ts.length ct) ts.length (ts.map .string)
  rowN : wr.ownsRow w.heap.size 4 1 (.slice (some ⟨gn, 0, none⟩) bs.length cn) bs.length (bs.map .bool)
  size : ∀ s ∈ ts, s.size ≤ 3

section
variable {w wr w' : World} {cv : Value} {cl : List Int} {p gt ct gn cn : Nat} {ts : List ByteArray} {bs : List Bool}
theorem DT.rd (h : DT w cv wr p gt ct gn cn ts bs) (hv : Vals w cv (cl.map (.int .u8))) (hr : ∀ c ∈ cl, 0 ≤ c ∧ c ≤ 255) (hs : cl.length ≤ 1048576) : Rd wr w.heap.size cv cl p := ⟨h.blk, hv.keep h.bel, hr, hs, fun h0 => hv.off (by simpa using h0) (Nat.le_refl _)⟩
theorem DT.below (h : DT w cv wr p gt ct gn cn ts bs) (hb : Below wr.heap.size wr w') : DT w cv w' p gt ct gn cn ts bs :=
  ⟨h.bel.trans (hb.mono h.bel.size), (hb.block _ (lt_of_heap h.blk)).trans h.blk, own_below h.rowT hb, own_below h.rowN hb, h.size⟩
theorem DT.picked (h : DT w cv wr p gt ct gn cn ts bs) (hrd : Rd w' w.heap.size cv cl (p + 1)) (hg : wr.grownBy w' (some w.heap.size)) : DT w cv w' (p + 1) gt ct gn cn ts bs :=
  ⟨h.bel.grown hg h.bel.size (fun k hk => by injection hk with hk; omega), hrd.blk, h.rowT.kept hg (.inr (own_ne h.rowT h.blk (by decide))), h.rowN.kept hg (.inr (own_ne h.rowN h.blk (by decide))), h.size⟩
theorem DT.pushT (h : DT w cv wr p gt ct gn cn ts bs) {s : ByteArray} {g' c' : Nat} (hown : w'.ownsRow w.heap.size 9 1 (.slice (some ⟨g', 0, none⟩) (ts.length + 1) c') (ts.length + 1) (ts.map .string ++ [.string s]))
    (hb : Below w.heap.size wr w') (hg : wr.grownBy w' (Value.slice (some ⟨gt, 0, none⟩) ts.length ct).ownBlock) (hs : s.size ≤ 3) : DT w cv w' p g' c' gn cn (ts ++ [s]) bs :=
  ⟨h.bel.trans hb, (hg.block _ (lt_of_heap h.blk) (fun e => own_ne h.rowT h.blk (by decide) e.symm)).trans h.blk, by simpa using hown, h.rowN.kept hg (own_own_ne h.rowN h.rowT (by decide)), fun x hx => by
    rcases List.mem_append.1 hx with h1 | h1
    · exact h.size x h1
    · simp only [List.mem_singleton] at h1; subst h1; exact hs⟩
theorem DT.pushN (h : DT w cv wr p gt ct gn cn ts bs) {b : Bool} {g' c' : Nat} (hown : w'.ownsRow w.heap.size 4 1 (.slice (some ⟨g', 0, none⟩) (bs.length + 1) c') (bs.length + 1) (bs.map .bool ++ [.bool b]))
    (hb : Below w.heap.size wr w') (hg : wr.grownBy w' (Value.slice (some ⟨gn, 0, none⟩) bs.length cn).ownBlock) : DT w cv w' p gt ct g' c' ts (bs ++ [b]) :=
  ⟨h.bel.trans hb, (hg.block _ (lt_of_heap h.blk) (fun e => own_ne h.rowN h.blk (by decide) e.symm)).trans h.blk, h.rowT.kept hg (own_own_ne h.rowT h.rowN (by decide)), by simpa using hown, h.size⟩
end

/-- What is drawn. -/
def DrewTexts (w : World) (e : Ending) (w' : World) : Prop := ∃ (tv nv : Value) (ts : List ByteArray) (bs : List Bool), e = .returned (.tuple #[tv, nv]) ∧ Strs w' tv ts ∧ Bools w' nv bs ∧ ts.length ≤ 5 ∧ bs.length ≤ 6 ∧ (∀ s ∈ ts, s.size ≤ 3) ∧ Below w.heap.size w w'

set_option maxHeartbeats 2000000 in
theorem drawJoinTexts_any (w : World) (cv : Value) (cl : List Int) (hv : Vals w cv (cl.map (.int .u8))) (hr : ∀ c ∈ cl, 0 ≤ c ∧ c ≤ 255) (hs : cl.length ≤ 1048576) :
    Calls Try.prog 14 #[cv] w (DrewTexts w) := by
  have HR := Lib.hid (And.intro hv (And.intro hr hs))
  obtain ⟨A, cap, rfl, h1, h2⟩ := hv.form
  simp only [List.length_map] at *
  have dt0 : DT w (.slice A cl.length cap) (((w.alloc (.cells #[.slice A cl.length cap, .int .i64 0] 45)).alloc (.cells #[] 9)).alloc (.cells #[] 4)) 0 (w.heap.size + 1) 0 (w.heap.size + 2) 0 [] [] := by
    refine ⟨(((Below.refl _ _).alloc (Nat.le_refl _) _).alloc (by simp) _).alloc (by simp; omega) _, ?_, ?_, ?_, by simp⟩
    · rw [Below.heap_alloc _ _ _ (by simp; omega), Below.heap_alloc _ _ _ (by simp)]
      exact heap_alloc_new w _
    · have := World.ownsRow_lit (base := w.heap.size) (e := 9) (size := 1) (w.alloc (.cells #[.slice A cl.length cap, .int .i64 0] 45)) #[] 0 (by simp) (by simp [maxLen]) (by simp)
      have := this.alloc (.cells #[] 4)
      simpa using this
    · have := World.ownsRow_lit (base := w.heap.size) (e := 4) (size := 1) ((w.alloc (.cells #[.slice A cl.length cap, .int .i64 0] 45)).alloc (.cells #[] 9)) #[] 0 (by simp; omega) (by simp [maxLen]) (by simp)
      simpa using this
  have D0 := Lib.hid dt0
  clear hv hr h1 h2 dt0
  go_enter Try.func14, Try.ntmps14
  go_wp2_with fail
  refine (pick_any _ w.heap.size _ cl 0 6 (D0.out.rd HR.out.1 HR.out.2.1 HR.out.2.2) (by omega) (by omega)).mono ?_
  rintro e w1 ⟨r, hr0, _, _, rfl, hrd, hgr⟩
  have D1 := Lib.hid (D0.out.picked hrd hgr)
  clear D0 hrd hgr
  go_wp2_with fail
  refine (pick_any _ w.heap.size _ cl 1 6 (D1.out.rd HR.out.1 HR.out.2.1 HR.out.2.2) (by omega) (by omega)).mono ?_
  rintro e w2 ⟨r2, hr20, hr21, _, rfl, hrd, hgr⟩
  have D2 := Lib.hid (D1.out.picked hrd hgr)
  have hr22 := hr21 (by omega)
  obtain ⟨j0, rfl⟩ := Int.eq_ofNat_of_zero_le hr20
  clear D1 hrd hgr hr21
  go_wp2_with fail
  generalize (r == 0) = ball at *
  go_loopw [5, 6, 8] (fun v5 v6 v8 wr => ∃ (j p gt ct gn cn : Nat) (ts : List ByteArray) (bs : List Bool), v8 = .int .i64 j ∧ v5 = .slice (some ⟨gt, 0, none⟩) ts.length ct ∧ v6 = .slice (some ⟨gn, 0, none⟩) bs.length cn ∧ ts.length + j ≤ 5 ∧ bs.length = ts.length ∧ p + 3 * j ≤ 100 ∧ DT w (.slice A cl.length cap) wr p gt ct gn cn ts bs) (fun _ _ v8 _ => (intOf v8).toNat)
  case atStart => exact ⟨j0, 2, w.heap.size + 1, 0, w.heap.size + 2, 0, [], [], rfl, rfl, rfl, by simp; omega, rfl, by omega, D2.out⟩
  case round =>
    obtain ⟨j, p, gt, ct, gn, cn, ts, bs, rfl, rfl, rfl, hj, hbl, hpj, hD⟩ := hrel
    have D := Lib.hid hD
    have HB := Lib.hid hbl
    have hbl2 : bs.length ≤ 5 := by omega
    have hs0 := hD.bel.size
    clear hD hbl D2
    by_cases hlt : 0 < j
    · go_wp2_with fail
      have DB := (D.out.below (w' := wr.alloc _) ((Below.refl _ _).alloc (Nat.le_refl _) (.cells #[.string ⟨#[97]⟩, .string ⟨#[98]⟩, .string ⟨#[]⟩, .string ⟨#[99, 10, 100]⟩, .string ⟨#[10]⟩, .string ⟨#[255]⟩] 9)))
      refine (of_any _ w.heap.size _ cl p _ [⟨#[97]⟩, ⟨#[98]⟩, ⟨#[]⟩, ⟨#[99, 10, 100]⟩, ⟨#[10]⟩, ⟨#[255]⟩] (DB.rd HR.out.1 HR.out.2.1 HR.out.2.2) (by omega) ?_ ?_ (by simp) (by simp)).mono ?_
      · exact Vals.of_own (World.ownsRow_lit (base := 0) (e := 9) (size := 1) wr #[.string ⟨#[97]⟩, .string ⟨#[98]⟩, .string ⟨#[]⟩, .string ⟨#[99, 10, 100]⟩, .string ⟨#[10]⟩, .string ⟨#[255]⟩] 6 (Nat.zero_le _) (by simp [maxLen]) (by simp))
      · intro A n c e
        injection e with e1
        injection e1 with e1
        subst e1
        have := lt_of_heap D.out.blk
        show wr.heap.size ≠ w.heap.size
        omega
      rintro e w3 ⟨s, hsm, rfl, hrd3, hgr3⟩
      have D3 := Lib.hid (DB.picked hrd3 hgr3)
      have hss : s.size ≤ 3 := by
        simp only [List.mem_cons, List.not_mem_nil, or_false] at hsm
        rcases hsm with rfl | rfl | rfl | rfl | rfl | rfl <;> decide
      have hs3 := D3.out.bel.size
      clear hsm DB hrd3 hgr3 D
      cases ball
      · go_wp2_with (at_builtin; refine wpList_push rfl (.tmp 23) (.tmp 27) _ rfl elemStr rfl D3.out.rowT rfl rfl rfl (by simp [Value.oneCell']) (by omega) hs3 ?_; intro g4 c4 w4 hown4 hbel4 hgr4 hlt4 hat4)
        have D4 := Lib.hid (D3.out.pushT hown4 hbel4 hgr4 hss)
        have hs4 := D4.out.bel.size
        clear hown4 hbel4 hgr4 hlt4 hat4 D3
        refine (pick_any _ w.heap.size _ cl (p + 1) 3 (D4.out.rd HR.out.1 HR.out.2.1 HR.out.2.2) (by omega) (by omega)).mono ?_
        rintro e w5 ⟨r5, _, _, _, rfl, hrd5, hgr5⟩
        have D5 := Lib.hid (D4.out.picked hrd5 hgr5)
        have hs5 := D5.out.bel.size
        clear hrd5 hgr5 D4
        go_wp2_with (at_builtin; refine wpList_push rfl (.tmp 29) (.tmp 36) _ rfl elemBool rfl D5.out.rowN rfl rfl rfl (by simp [Value.oneCell']) (by omega) hs5 ?_; intro g6 c6 w6 hown6 hbel6 hgr6 hlt6 hat6)
        have D6 := D5.out.pushN hown6 hbel6 hgr6
        clear hown6 hbel6 hgr6 hlt6 hat6
        go_roundw
        case rel => exact ⟨j - 1, p + 2, g4, c4, g6, c6, ts ++ [s], bs ++ [_], by congr 1; omega, by simp, by simp, by simp; omega, by simp [HB.out], by omega, D6⟩
        case measure => simp [intOf]; omega
      · go_wp2_with (first
          | (at_builtin; refine wpList_push rfl (.tmp 23) (.tmp 27) _ rfl elemStr rfl D3.out.rowT rfl rfl rfl (by simp [Value.oneCell']) (by omega) hs3 ?_; intro g4 c4 w4 hown4 hbel4 hgr4 hlt4 hat4; have D4 := Lib.hid (D3.out.pushT hown4 hbel4 hgr4 hss); have hs4 := D4.out.bel.size; clear hown4 hbel4 hgr4 hlt4 hat4)
          | (at_builtin; refine wpList_push rfl (.tmp 29) (.tmp 36) _ rfl elemBool rfl D4.out.rowN rfl rfl rfl (by simp [Value.oneCell']) (by omega) hs4 ?_; intro g6 c6 w6 hown6 hbel6 hgr6 hlt6 hat6))
        have D6 := D4.out.pushN hown6 hbel6 hgr6
        clear hown6 hbel6 hgr6 hlt6 hat6
        go_roundw
        case rel => exact ⟨j - 1, p + 1, g4, c4, g6, c6, ts ++ [s], bs ++ [_], by congr 1; omega, by simp, by simp, by simp; omega, by simp [HB.out], by omega, D6⟩
        case measure => simp [intOf]; omega
    · go_wp2_with fail
      refine (pick_any _ w.heap.size _ cl p 6 (D.out.rd HR.out.1 HR.out.2.1 HR.out.2.2) (by omega) (by omega)).mono ?_
      rintro e w3 ⟨r3, hr30, _, _, rfl, hrd3, hgr3⟩
      have D3 := Lib.hid (D.out.picked hrd3 hgr3)
      clear hrd3 hgr3 D
      by_cases h3 : r3 = 0
      · have h3b : (r3 == 0) = true := by rw [beq_iff_eq]; exact h3
        obtain ⟨hq, hcap, hcap2⟩ := Vals.len (Vals.of_own D3.out.rowN); clear hq
        have HT := Lib.hid (Vals.take (Vals.of_own D3.out.rowN) (bs.length / 2) (by omega))
        have q1 : (0 : Int) ≤ (bs.length : Int) / 2 := by omega
        have q2 : (bs.length : Int) / 2 ≤ (cn : Int) := by omega
        simp only [maxLen] at hcap2
        clear h3
        go_wp2_with fail
        go_ret2
        refine ⟨_, _, ts, bs.take (bs.length / 2), rfl, Vals.of_own D3.out.rowT, ?_, by omega, by simp; omega, D3.out.size, D3.out.bel⟩
        have := HT.out
        unfold Bools
        rw [List.map_take]
        exact this
      · have h3b : (r3 == 0) = false := by rw [beq_eq_false_iff_ne]; exact h3
        go_wp2_with fail
        refine (pick_any _ w.heap.size _ cl (p + 1) 8 (D3.out.rd HR.out.1 HR.out.2.1 HR.out.2.2) (by omega) (by omega)).mono ?_
        rintro e w4 ⟨r4, hr40, _, _, rfl, hrd4, hgr4⟩
        have D4 := Lib.hid (D3.out.picked hrd4 hgr4)
        have hs4 := D4.out.bel.size
        clear hrd4 hgr4 D3
        by_cases h4 : r4 = 0
        · have h4b : (r4 == 0) = true := by rw [beq_iff_eq]; exact h4
          go_wp2_with (at_builtin; refine wpList_push rfl (.tmp 49) (.tmp 50) _ rfl elemBool rfl D4.out.rowN rfl rfl rfl (by simp [Value.oneCell']) (by omega) hs4 ?_; intro g6 c6 w6 hown6 hbel6 hgr6 hlt6 hat6)
          have D6 := D4.out.pushN hown6 hbel6 hgr6
          go_ret2
          exact ⟨_, _, ts, bs ++ [true], rfl, Vals.of_own D6.rowT, by have := Vals.of_own D6.rowN; unfold Bools; simpa using this, by omega, by simp; omega, D6.size, D6.bel⟩
        · have h4b : (r4 == 0) = false := by rw [beq_eq_false_iff_ne]; exact h4
          go_wp2_with fail
          go_ret2
          exact ⟨_, _, ts, bs, rfl, Vals.of_own D4.out.rowT, Vals.of_own D4.out.rowN, by omega, by omega, D4.out.size, D4.out.bel⟩
end Go.Proofs.Ytgkhnccedejjnaa
