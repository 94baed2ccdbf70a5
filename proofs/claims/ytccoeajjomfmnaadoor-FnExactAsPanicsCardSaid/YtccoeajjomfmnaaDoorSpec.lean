/-
  The contracts of the reference's known and There.
  Conditions: none.
-/
import Derived.Test.YtccoeajjomfmnaaDoorProg
import Derived.Test.YtccoeajjomfmnaaDoorTree
namespace Go.Proofs.YtccoeajjomfmnaaDoor
open Go.RowKit Go.Lib

set_option maxHeartbeats 1000000 in
theorem known_any (s : ByteArray) (w : World) : Calls Tryd.prog 29 #[.string s] w fun e w' => e = .returned (.bool (kindOf s).isSome) ∧ w = w' := by
  cases hk : kindOf s with
  | none =>
    have hne := kindOf_none hk
    have n1 := toList_ne (hne .text)
    have n2 := toList_ne (hne .value)
    have n3 := toList_ne (hne .list)
    have n4 := toList_ne (hne .wrap)
    have n5 := toList_ne (hne .many)
    have n6 := toList_ne (hne .join)
    have n7 := toList_ne (hne .alike)
    have n8 := toList_ne (hne .acts)
    clear hne hk
    go_enter Tryd.func29, Tryd.ntmps29
    go_wp2
    go_ret
    exact ⟨rfl, rfl⟩
  | some k =>
    obtain rfl := word_of_kind hk
    clear hk
    cases k <;> simp only [K8.word, kText, kValue, kList, kWrap, kMany, kJoin, kAlike, kActs] <;>
      (go_enter Tryd.func29, Tryd.ntmps29; go_wp2; go_ret; exact ⟨rfl, rfl⟩)

/-- Whether there is an error with an index, off the truths of a forest. -/
def hasAt (bs : List Bool) (i : Int) : Bool := decide (0 ≤ i ∧ i < (bs.length : Int)) && bs.getD i.toNat false

set_option maxHeartbeats 1000000 in
theorem there_any (NA : Option Addr) (nc : Nat) (iv : Value) (KA : Option Addr) (kn kc : Nat) (bs : List Bool) (i : Int) (w : World) (hb : Bools w iv bs) :
    Calls Tryd.prog 18 #[.agg #[.slice NA bs.length nc, iv, .slice KA kn kc], .int .i64 i] w fun e w' => e = .returned (.bool (hasAt bs i)) ∧ Below w.heap.size w w' := by
  obtain ⟨A, cap, rfl, _, hm⟩ := hb.form
  simp only [List.length_map] at *
  by_cases h0 : 0 ≤ i
  · by_cases h1 : i < (bs.length : Int)
    · have h2 : i.toNat < bs.length := by omega
      obtain ⟨b, off, rfl, c0⟩ := Vals.at (k := i.toNat) (x := .bool bs[i.toNat]) (hb.keep ((Below.refl _ _).alloc (Nat.le_refl _) (.cells #[.slice NA bs.length nc, .slice A bs.length cap, .slice KA kn kc] 37))) (by simp [h2])
      have HP := Lib.hid (show hasAt bs i = bs[i.toNat] by unfold hasAt; rw [decide_eq_true ⟨h0, h1⟩]; simp [h2])
      have hd : decide (0 ≤ i) = true := by simpa using h0
      have hd2 : decide (i < (bs.length : Int)) = true := by simpa using h1
      clear hb
      generalize bs[i.toNat] = x at *
      go_enter Tryd.func18, Tryd.ntmps18
      go_wp2
      go_ret
      exact ⟨by rw [HP.out]; rfl, (Below.refl _ _).alloc (Nat.le_refl _) _⟩
    · have HP := Lib.hid (show hasAt bs i = false by unfold hasAt; rw [decide_eq_false (fun h => h1 h.2)]; rfl)
      have hd : decide (0 ≤ i) = true := by simpa using h0
      have hd2 : decide (i < (bs.length : Int)) = false := by simpa using h1
      clear hb
      go_enter Tryd.func18, Tryd.ntmps18
      go_wp2
      go_ret
      exact ⟨by rw [HP.out]; rfl, (Below.refl _ _).alloc (Nat.le_refl _) _⟩
  · have HP := Lib.hid (show hasAt bs i = false by unfold hasAt; rw [decide_eq_false (fun h => h0 h.1)]; rfl)
    have hd : decide (0 ≤ i) = false := by simpa using h0
    clear hb
    go_enter Tryd.func18, Tryd.ntmps18
    go_wp2
    go_ret
    exact ⟨by rw [HP.out]; rfl, (Below.refl _ _).alloc (Nat.le_refl _) _⟩
end Go.Proofs.YtccoeajjomfmnaaDoor
