/-
  The contract of the reader's method of: an element of a list that is not empty, and the reader has gone on by one; and how a reader is kept.
  Conditions: at most 2^20 bytes and texts, and at most 2^40 picks before.
-/
import Derived.Test.YtgkhnccedejjnaaPick
namespace Go.Proofs.Ytgkhnccedejjnaa
open Go.RowKit Go.Lib

/-- v is no slice that lies in block g. -/
def Off (g : Nat) (v : Value) : Prop := ∀ A n c, v = .slice (some A) n c → A.block ≠ g

theorem Vals.grown {w w' : World} {v : Value} {xs : List Value} {row : Option Nat} (h : Vals w v xs) (hg : w.grownBy w' row) (ha : ∀ g, row = some g → Off g v) : Vals w' v xs := by
  obtain ⟨A, cap, rfl, h1, h2, h3⟩ := h
  refine ⟨A, cap, rfl, h1, h2, fun hp => ?_⟩
  obtain ⟨b, off, rfl, hc⟩ := h3 hp
  refine ⟨b, off, rfl, fun j u hu => ?_⟩
  have hcell := hc j u hu
  rw [hg.cell_far ⟨b, off + j, none⟩ (lt_of_cell hcell) (fun e => ha b e.symm _ _ _ rfl rfl)]
  exact hcell

theorem Vals.off {w : World} {v : Value} {xs : List Value} {g : Nat} (h : Vals w v xs) (h0 : 0 < xs.length) (hg : w.heap.size ≤ g) : Off g v := by
  obtain ⟨A, cap, rfl, h1, h2, h3⟩ := h
  obtain ⟨b, off, rfl, hc⟩ := h3 h0
  have := lt_of_cell (hc 0 xs[0] (List.getElem?_eq_getElem h0))
  intro A n c e
  injection e with e1
  injection e1 with e1
  subst e1
  show b ≠ g
  omega

/-- A picked element. -/
def Drawn (w : World) (g : Nat) (cv : Value) (cl : List Int) (p : Nat) (ts : List ByteArray) (e : Ending) (w' : World) : Prop := ∃ s, s ∈ ts ∧ e = .returned (.string s) ∧ Rd w' g cv cl (p + 1) ∧ w.grownBy w' (some g)

set_option maxHeartbeats 1000000 in
theorem of_any (w : World) (g : Nat) (cv : Value) (cl : List Int) (p : Nat) (lv : Value) (ts : List ByteArray) (h : Rd w g cv cl p) (hp : p ≤ 1099511627776) (hl : Strs w lv ts) (ho : Off g lv) (h0 : 0 < ts.length) (hl2 : ts.length ≤ 1048576) :
    Calls Try.prog 19 #[.pointer (some ⟨g, 0, none⟩), lv] w (Drawn w g cv cl p ts) := by
  obtain ⟨A, cap, rfl, h1, h2⟩ := hl.form
  simp only [List.length_map] at *
  have H := Lib.hid h
  have HL := Lib.hid hl
  clear h hl h1 h2
  go_enter Try.func19, Try.ntmps19
  go_wp2_with fail
  refine (pick_any _ g cv cl p ts.length H.out hp (by omega)).mono ?_
  rintro e w1 ⟨r, hr0, hr1, _, rfl, hrd, hgr⟩
  have hr2 := hr1 (by omega)
  obtain ⟨k, rfl⟩ := Int.eq_ofNat_of_zero_le hr0
  have hk : k < ts.length := by omega
  have hv := Vals.grown HL.out hgr (fun g' e => by injection e with e; subst e; exact ho)
  obtain ⟨b, off, rfl, c0⟩ := Vals.at (k := k) (x := .string ts[k]) hv (by simp [hk])
  have HM := Lib.hid (List.getElem_mem hk)
  have HR := Lib.hid (And.intro hrd hgr)
  clear hr1 hr2 hrd hgr hv
  generalize ts[k] = s at *
  go_wp2
  go_ret
  exact ⟨s, HM.out, rfl, HR.out.1, HR.out.2⟩
end Go.Proofs.Ytgkhnccedejjnaa
