/-
  The walk of the law FnExactJoinTexts: it returns true.
  Conditions: at most 2^36 texts, and a joined text of at most 2^40 bytes.
-/
import Derived.Test.YtgkhnccedejjnaaKept
namespace Go.Proofs.Ytgkhnccedejjnaa
open Go.RowKit Go.Lib

set_option maxHeartbeats 1000000 in
theorem wJoinTexts (tv nv : Value) (ts : List ByteArray) (bs : List Bool) (w : World) (ht : Strs w tv ts) (hn : Bools w nv bs) (hr : ts.length ≤ 68719476736) (hsz : (lines (kept ts bs)).length ≤ 1099511627776) :
    Calls Try.prog 5 #[tv, nv] w fun e w' => e = .returned (.bool true) ∧ Below w.heap.size w w' := by
  obtain ⟨A, cap, rfl, _, _⟩ := ht.form
  obtain ⟨A2, cap2, rfl, _, _⟩ := hn.form
  simp only [List.length_map] at *
  have HT := Lib.hid ht
  have HN := Lib.hid hn
  clear ht hn
  have HL := Lib.hid (kept_length_le ts bs)
  go_enter Try.func5, Try.ntmps5
  go_wp2_with fail
  refine (joinTexts_any _ _ ts bs _ HT.out HN.out hr hsz).mono ?_
  rintro e w1 ⟨rfl, hb1⟩
  go_wp2_with fail
  refine (kept_any _ _ ts bs _ (Vals.keep HT.out hb1) (Vals.keep HN.out hb1) hr).mono ?_
  rintro e w2 ⟨v, rfl, hown, hb2⟩
  have hv := Vals.of_own hown
  obtain ⟨A3, cap3, rfl, _, _⟩ := hv.form
  simp only [List.length_map] at *
  have HV := Lib.hid hv
  have hb3 : Below w.heap.size w w2 := hb1.trans (hb2.mono hb1.size)
  have hl := HL.out
  clear hown hv
  generalize hK : kept ts bs = L at *
  have HK := Lib.hid hK
  clear hK
  go_wp2_with fail
  refine (lines_any _ L _ HV.out (by omega) hsz).mono ?_
  rintro e w3 ⟨rfl, rfl⟩
  cases L with
  | nil =>
    go_wp2
    go_ret
    exact ⟨rfl, hb3⟩
  | cons t r =>
    generalize lines (t :: r) = q at *
    go_wp2
    go_ret
    exact ⟨rfl, hb3⟩
end Go.Proofs.Ytgkhnccedejjnaa
