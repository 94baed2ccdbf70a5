/-
  The contract of the reader's method pick: a number from 0 to n-1 (0 if there is none), and the reader has gone on by one.
  Conditions: at most 2^20 bytes, and at most 2^40 picks before.
-/
import Derived.Test.YtgkhnccedejjnaaProg
import Derived.Test.YtgkhnccedejjnaaMem
import Derived.Deep.QuietTactic
import Derived.BigQuiet
import Derived.IntWalk
import Derived.Outline
namespace Go.Proofs.Ytgkhnccedejjnaa
open Go.RowKit Go.Lib

/-- The block g is a reader over the bytes cl, which has gone p steps. -/
structure Rd (w : World) (g : Nat) (cv : Value) (cl : List Int) (p : Nat) : Prop where
  blk : w.heap[g]? = some (.cells #[cv, .int .i64 p] 45 (0, 0))
  bytes : Vals w cv (cl.map (.int .u8))
  range : ∀ c ∈ cl, 0 ≤ c ∧ c ≤ 255
  small : cl.length ≤ 1048576
  apart : 0 < cl.length → ∀ A n c, cv = .slice (some A) n c → A.block ≠ g

/-- What pick leaves where it reads a byte. -/
def Picked (w : World) (g p : Nat) (n : Int) (e : Ending) (w' : World) : Prop := ∃ (r : Int) (m : Nat), 0 ≤ r ∧ r < n ∧ e = .returned (.int .i64 r) ∧ w' = (w.setCell ⟨g, 1, none⟩ (.int .i64 (p + 1))).drewN m
/-- What pick leaves where it reads none. -/
def Picked0 (w : World) (g p : Nat) (e : Ending) (w' : World) : Prop := ∃ (m : Nat), e = .returned (.int .i64 0) ∧ w' = (w.setCell ⟨g, 1, none⟩ (.int .i64 (p + 1))).drewN m

theorem xor_nonneg (X : Nat) (h : (X : Int) ≤ 1152921504606846976) : 0 ≤ bits .xor .i64 (X : Int) ((X : Int) / 64) := by
  have e : (X : Int) / 64 = ((X / 64 : Nat) : Int) := by omega
  rw [e]
  have of (a : Nat) (ha : a < 9223372036854775808) : (BitVec.ofInt 64 (a : Int)).toNat = a := by
    rw [BitVec.ofInt_natCast, BitVec.toNat_ofNat]; exact Nat.mod_eq_of_lt (by omega)
  have hx : X ^^^ (X / 64) < 2 ^ 63 := Nat.xor_lt_two_pow (by omega) (by omega)
  show 0 ≤ IntKind.i64.wrap ((BitVec.ofInt 64 (X : Int) ^^^ BitVec.ofInt 64 ((X / 64 : Nat) : Int)).toNat : Int)
  rw [BitVec.toNat_xor, of X (by omega), of (X / 64) (by omega), IntKind.wrap_i64]
  omega

set_option maxHeartbeats 1000000 in
theorem pick_far (w : World) (g : Nat) (cv : Value) (cl : List Int) (p : Nat) (n : Int) (h : Rd w g cv cl p) (hp : p ≤ 1099511627776) (hn : 1 ≤ n) (hn2 : n ≤ 1048576) (hc : cl.length ≤ p) (h0 : 0 < cl.length) :
    Calls Try.prog 18 #[.pointer (some ⟨g, 0, none⟩), .int .i64 n] w (Picked w g p n) := by
  obtain ⟨hb, hv, hr, hs, ha⟩ := h
  obtain ⟨A, cap, rfl, h1, h2⟩ := hv.form
  simp only [List.length_map] at *
  have c0 := cell_of_heap hb 0 rfl
  have c1 := cell_of_heap hb 1 rfl
  have f1 := frozen_of_heap hb 1
  have hi1 : p % cl.length < cl.length := Nat.mod_lt _ h0
  have hi2 : (p * 7 + 3) % cl.length < cl.length := Nat.mod_lt _ h0
  obtain ⟨b, off, rfl, d1⟩ := Vals.at (k := p % cl.length) (x := .int .u8 cl[p % cl.length]) hv (by simp [hi1])
  obtain ⟨b', off', hA, d2⟩ := Vals.at (k := (p * 7 + 3) % cl.length) (x := .int .u8 cl[(p * 7 + 3) % cl.length]) hv (by simp [hi2])
  obtain ⟨rfl, rfl⟩ : b = b' ∧ off = off' := by simpa using hA
  have hbg := ha (by omega) _ _ _ rfl
  have r1 := hr _ (List.getElem_mem hi1)
  have r2 := hr _ (List.getElem_mem hi2)
  generalize cl[p % cl.length] = x1 at *
  generalize cl[(p * 7 + 3) % cl.length] = x2 at *
  generalize hL : cl.length = L at *
  clear hL hv hr ha hA h1 h2
  obtain ⟨r11, r12⟩ := r1
  obtain ⟨r21, r22⟩ := r2
  have hL0 : ((L : Int) == 0) = false := by rw [beq_eq_false_iff_ne]; omega
  go_enter Try.func18, Try.ntmps18
  go_wp2
  have e0 : (w.setCell ⟨g, 1, none⟩ (.int .i64 (p + 1))).cell? ⟨g, 0, none⟩ = some (.slice (some ⟨b, off, none⟩) L cap) := by
    rw [World.cell?_setCell_other _ _ _ _ (by simp)]; exact c0
  have e1 : (w.setCell ⟨g, 1, none⟩ (.int .i64 (p + 1))).cell? ⟨b, off + p % L, none⟩ = some (.int .u8 x1) := by
    rw [World.cell?_setCell_other _ _ _ _ (by simp)]; exact d1
  have e2 : (w.setCell ⟨g, 1, none⟩ (.int .i64 (p + 1))).cell? ⟨b, off + (p * 7 + 3) % L, none⟩ = some (.int .u8 x2) := by
    rw [World.cell?_setCell_other _ _ _ _ (by simp)]; exact d2
  clear c0 c1 f1 d1 d2
  generalize hWe : w.setCell ⟨g, 1, none⟩ (.int .i64 (p + 1)) = W at *
  have HW := Lib.hid hWe
  clear hWe
  have t1 : ((p : Int)).tmod (L : Int) = ((p % L : Nat) : Int) := rfl
  have t2 : ((p : Int) * 7 + 3).tmod (L : Int) = (((p * 7 + 3) % L : Nat) : Int) := by rw [show (p : Int) * 7 + 3 = ((p * 7 + 3 : Nat) : Int) by omega]; rfl
  have t3 : ((p : Int)).tdiv (L : Int) = ((p / L : Nat) : Int) := rfl
  have hq : p / L ≤ p := Nat.div_le_self _ _
  generalize p % L = i1 at *
  generalize (p * 7 + 3) % L = i2 at *
  generalize p / L = q at *
  have m1 : IntKind.i64.wrap ((p : Int) * 7) = (p : Int) * 7 := IntWalk.i64_in _ (by omega)
  have m2 : IntKind.i64.wrap ((p : Int) * 7 + 3) = (p : Int) * 7 + 3 := IntWalk.i64_in _ (by omega)
  have m3 : IntKind.i64.wrap (x1 * 131) = x1 * 131 := IntWalk.i64_in _ (by omega)
  have m4 : IntKind.i64.wrap (x2 * 1117) = x2 * 1117 := IntWalk.i64_in _ (by omega)
  have m5 : IntKind.i64.wrap (x1 * 131 + x2 * 1117) = x1 * 131 + x2 * 1117 := IntWalk.i64_in _ (by omega)
  have m6 : IntKind.i64.wrap ((p : Int) * 29) = (p : Int) * 29 := IntWalk.i64_in _ (by omega)
  have m7 : IntKind.i64.wrap (x1 * 131 + x2 * 1117 + (p : Int) * 29) = x1 * 131 + x2 * 1117 + (p : Int) * 29 := IntWalk.i64_in _ (by omega)
  have m8 : IntKind.i64.wrap ((q : Int)) = (q : Int) := IntWalk.i64_in _ (by omega)
  have m9 : IntKind.i64.wrap ((q : Int) * 53) = (q : Int) * 53 := IntWalk.i64_in _ (by omega)
  have m10 : IntKind.i64.wrap (x1 * 131 + x2 * 1117 + (p : Int) * 29 + (q : Int) * 53) = x1 * 131 + x2 * 1117 + (p : Int) * 29 + (q : Int) * 53 := IntWalk.i64_in _ (by omega)
  have m11 : IntKind.i64.wrap x1 = x1 := IntWalk.i64_in _ (by omega)
  have m12 : IntKind.i64.wrap x2 = x2 := IntWalk.i64_in _ (by omega)
  have hLz : ¬ L = 0 := by omega
  go_quiet (fail)
  clear m1 m2 m3 m4 m5 m6 m7 m8 m9 m11 m12 t1 t2 t3 e0 e1 e2
  have hX0 : 0 ≤ x1 * 131 + x2 * 1117 + (p : Int) * 29 + (q : Int) * 53 := by omega
  have hX1 : x1 * 131 + x2 * 1117 + (p : Int) * 29 + (q : Int) * 53 ≤ 1152921504606846976 := by omega
  clear m10
  generalize x1 * 131 + x2 * 1117 + (p : Int) * 29 + (q : Int) * 53 = X at *
  obtain ⟨X, rfl⟩ := Int.eq_ofNat_of_zero_le hX0
  go_wp2
  go_ret
  refine ⟨_, nq, ?_, ?_, rfl, by rw [HW.out]⟩
  · exact Int.tmod_nonneg _ (xor_nonneg X hX1)
  · exact Int.tmod_lt_of_pos _ (by omega)

set_option maxHeartbeats 1000000 in
theorem pick_near (w : World) (g : Nat) (cv : Value) (cl : List Int) (p : Nat) (n : Int) (h : Rd w g cv cl p) (hp : p ≤ 1099511627776) (hn : 1 ≤ n) (hn2 : n ≤ 1048576) (hc : p < cl.length) :
    Calls Try.prog 18 #[.pointer (some ⟨g, 0, none⟩), .int .i64 n] w (Picked w g p n) := by
  obtain ⟨hb, hv, hr, hs, ha⟩ := h
  obtain ⟨A, cap, rfl, h1, h2⟩ := hv.form
  simp only [List.length_map] at *
  have c0 := cell_of_heap hb 0 rfl
  have c1 := cell_of_heap hb 1 rfl
  have f1 := frozen_of_heap hb 1
  obtain ⟨b, off, rfl, d1⟩ := Vals.at (k := p) (x := .int .u8 cl[p]) hv (by simp [hc])
  have hbg := ha (by omega) _ _ _ rfl
  have r1 := hr _ (List.getElem_mem hc)
  generalize cl[p] = x1 at *
  generalize hL : cl.length = L at *
  clear hL hv hr ha h1 h2
  obtain ⟨r11, r12⟩ := r1
  have hL0 : ((L : Int) == 0) = false := by rw [beq_eq_false_iff_ne]; omega
  have hbg2 : ¬ g = b := fun e => hbg e.symm
  have hnz : ¬ n = 0 := by omega
  go_enter Try.func18, Try.ntmps18
  go_wp2
  go_ret
  refine ⟨x1 % n, 0, Int.emod_nonneg _ (by omega), Int.emod_lt_of_pos _ (by omega), ?_, rfl⟩
  first | rfl | (congr 2; exact Int.tmod_eq_emod_of_nonneg r11)

set_option maxHeartbeats 1000000 in
theorem pick_none (w : World) (g : Nat) (cv : Value) (cl : List Int) (p : Nat) (n : Int) (h : Rd w g cv cl p) (hp : p ≤ 1099511627776) (hn : n < 1 ∨ cl.length = 0) :
    Calls Try.prog 18 #[.pointer (some ⟨g, 0, none⟩), .int .i64 n] w (Picked0 w g p) := by
  obtain ⟨hb, hv, hr, hs, ha⟩ := h
  obtain ⟨A, cap, rfl, h1, h2⟩ := hv.form
  simp only [List.length_map] at *
  have c0 := cell_of_heap hb 0 rfl
  have c1 := cell_of_heap hb 1 rfl
  have f1 := frozen_of_heap hb 1
  generalize hL : cl.length = L at *
  clear hL hv hr ha h1 h2
  by_cases h1 : n < 1
  · go_enter Try.func18, Try.ntmps18
    go_wp2
    go_ret
    exact ⟨0, rfl, rfl⟩
  · obtain rfl : L = 0 := by omega
    have hd : decide (n < 1) = false := by simpa using h1
    clear hn
    go_enter Try.func18, Try.ntmps18
    go_wp2
    go_ret
    exact ⟨0, rfl, rfl⟩

/-- What a step of a reader does: the reader has gone on by one, all else is as it was. -/
theorem Rd.step {w : World} {g : Nat} {cv : Value} {cl : List Int} {p : Nat} (h : Rd w g cv cl p) (m : Nat) :
    Rd ((w.setCell ⟨g, 1, none⟩ (.int .i64 (p + 1))).drewN m) g cv cl (p + 1) ∧ w.grownBy ((w.setCell ⟨g, 1, none⟩ (.int .i64 (p + 1))).drewN m) (some g) := by
  have hgr : w.grownBy ((w.setCell ⟨g, 1, none⟩ (.int .i64 (p + 1))).drewN m) (some g) := ⟨rfl, rfl, rfl, by show _ ≤ (w.setCell ⟨g, 1, none⟩ (.int .i64 (p + 1))).heap.size; simp, fun k _ hk => Below.heap_setCell w _ _ k (fun e => hk (by rw [e]))⟩
  refine ⟨⟨?_, ?_, h.range, h.small, h.apart⟩, hgr⟩
  · have := heap_setCell_same w g 1 _ _ (.int .i64 ((p : Int) + 1)) h.blk
    show (w.setCell ⟨g, 1, none⟩ (.int .i64 ((p : Int) + 1))).heap[g]? = _
    rw [this]
    simp
  · obtain ⟨A, cap, e, h1, h2, h3⟩ := h.bytes
    refine ⟨A, cap, e, h1, h2, fun hp => ?_⟩
    obtain ⟨b, off, rfl, hc⟩ := h3 hp
    refine ⟨b, off, rfl, fun j u hu => ?_⟩
    show (w.setCell ⟨g, 1, none⟩ (.int .i64 ((p : Int) + 1))).cell? _ = _
    rw [World.cell?_setCell_other _ _ _ _ (fun e' => h.apart (by simpa using hp) _ _ _ e (by injection e' with e'; exact e'.symm))]
    exact hc j u hu

/-- pick, whatever n. -/
theorem pick_any (w : World) (g : Nat) (cv : Value) (cl : List Int) (p : Nat) (n : Int) (h : Rd w g cv cl p) (hp : p ≤ 1099511627776) (hn2 : n ≤ 1048576) :
    Calls Try.prog 18 #[.pointer (some ⟨g, 0, none⟩), .int .i64 n] w fun e w' => ∃ r : Int, 0 ≤ r ∧ (1 ≤ n → r < n) ∧ (n < 1 → r = 0) ∧ e = .returned (.int .i64 r) ∧ Rd w' g cv cl (p + 1) ∧ w.grownBy w' (some g) := by
  by_cases h1 : n < 1 ∨ cl.length = 0
  · refine (pick_none w g cv cl p n h hp h1).mono ?_
    rintro e w' ⟨m, rfl, rfl⟩
    exact ⟨0, Int.le_refl _, fun _ => by omega, fun _ => rfl, rfl, h.step m⟩
  · have h2 : 1 ≤ n := by omega
    by_cases h3 : p < cl.length
    · refine (pick_near w g cv cl p n h hp h2 hn2 h3).mono ?_
      rintro e w' ⟨r, m, h4, h5, rfl, rfl⟩
      exact ⟨r, h4, fun _ => h5, fun _ => by omega, rfl, h.step m⟩
    · refine (pick_far w g cv cl p n h hp h2 hn2 (by omega) (by omega)).mono ?_
      rintro e w' ⟨r, m, h4, h5, rfl, rfl⟩
      exact ⟨r, h4, fun _ => h5, fun _ => by omega, rfl, h.step m⟩
end Go.Proofs.Ytgkhnccedejjnaa
