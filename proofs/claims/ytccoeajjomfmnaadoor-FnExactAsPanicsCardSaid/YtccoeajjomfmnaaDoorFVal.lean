/-
  A forest of the reference as a value, and the contract of its method There.
  Conditions: none.
-/
import Derived.Test.YtccoeajjomfmnaaDoorSpecMade
import Derived.Test.YtccoeajjomfmnaaDoorPlain
import Derived.Test.YtccoeajjomfmnaaDoorMem2
namespace Go.Proofs.YtccoeajjomfmnaaDoor
open Go.RowKit Go.Lib

/-- The three slices of a forest. -/
structure FVal (w : World) (ns : List Nd) (NA : Option Addr) (nc : Nat) (kv : Nat → Value) (gi gk : Nat) (ks : Nat → Value) : Prop where
  nodes : Nodes w (.slice NA ns.length nc) ns kv
  is_ : Vals w (.slice (some ⟨gi, 0, none⟩) ns.length ns.length) ((isTo ns 0).map .bool)
  rows : Vals w (.slice (some ⟨gk, 0, none⟩) ns.length ns.length) (rowsTo ns.length 0 ks)
  kids : ∀ j, j < ns.length → Vals w (ks j) (asInts (kidsOf ns j))

theorem FVal.keep {w w' : World} {ns : List Nd} {NA : Option Addr} {nc : Nat} {kv : Nat → Value} {gi gk : Nat} {ks : Nat → Value} (h : FVal w ns NA nc kv gi gk ks) (hb : Below w.heap.size w w') : FVal w' ns NA nc kv gi gk ks :=
  ⟨h.nodes.keep hb, h.is_.keep hb, h.rows.keep hb, fun j hj => (h.kids j hj).keep hb⟩

/-- Whether there is an error with an index. -/
def thereB (ns : List Nd) (i : Int) : Bool := decide (0 ≤ i) && isThere ns i.toNat
theorem hasAt_all (ns : List Nd) (i : Int) : hasAt (isTo ns 0) i = thereB ns i := by
  unfold hasAt thereB
  rw [isTo_length]
  by_cases h0 : 0 ≤ i
  · by_cases h1 : i < (ns.length : Int)
    · rw [decide_eq_true ⟨h0, h1⟩, decide_eq_true h0, Bool.true_and, Bool.true_and, List.getD_eq_getElem?_getD, isTo_get (by omega)]
      simp
    · rw [decide_eq_false (fun h => h1 h.2), isThere_none ns i.toNat (by omega), Bool.and_false, Bool.false_and]
  · rw [decide_eq_false (fun h => h0 h.1), decide_eq_false h0, Bool.false_and, Bool.false_and]
theorem thereB_true {ns : List Nd} {i : Int} (h : thereB ns i = true) : ∃ k : Nat, i = (k : Int) ∧ k < ns.length ∧ isThere ns k = true := by
  unfold thereB at h
  simp only [Bool.and_eq_true, decide_eq_true_eq] at h
  exact ⟨i.toNat, by omega, isThere_lt h.2, h.2⟩
theorem treeAt_not {ns : List Nd} {i : Int} (h : thereB ns i = false) : treeAt ns i = [] := by
  unfold treeAt thereB at *
  split
  · rename_i hc
    rw [hc.2, decide_eq_true hc.1] at h
    cases h
  · rfl
theorem treeAt_nat {ns : List Nd} {k : Nat} (h : isThere ns k = true) : treeAt ns (k : Int) = treeOf ns k := by
  unfold treeAt
  rw [if_pos ⟨by omega, by simpa using h⟩]
  simp

theorem there_f (ns : List Nd) (NA : Option Addr) (nc : Nat) (kv : Nat → Value) (gi gk : Nat) (ks : Nat → Value) (i : Int) (w : World) (F : FVal w ns NA nc kv gi gk ks) :
    Calls Tryd.prog 18 #[.agg #[.slice NA ns.length nc, .slice (some ⟨gi, 0, none⟩) ns.length ns.length, .slice (some ⟨gk, 0, none⟩) ns.length ns.length], .int .i64 i] w fun e w' => e = .returned (.bool (thereB ns i)) ∧ Below w.heap.size w w' := by
  have := there_any NA nc (.slice (some ⟨gi, 0, none⟩) ns.length ns.length) (some ⟨gk, 0, none⟩) ns.length ns.length (isTo ns 0) i w F.is_
  rw [hasAt_all, isTo_length] at this
  exact this

theorem rows_at {w : World} {n : Nat} {A : Option Addr} {nc j : Nat} {ks : Nat → Value} (h : Vals w (.slice A n nc) (rowsTo n 0 ks)) (hj : j < n) : ∃ b off, A = some ⟨b, off, none⟩ ∧ w.cell? ⟨b, off + j, none⟩ = some (ks j) :=
  h.at (k := j) (by rw [rowsTo_get hj]; simp)
theorem asInts_get {l : List Nat} {j : Nat} (hj : j < l.length) : (asInts l)[j]? = some (.int .i64 (l[j] : Nat)) := by simp [asInts, hj]
theorem asInts_length (l : List Nat) : (asInts l).length = l.length := by simp [asInts]
theorem asInts_append (a b : List Nat) : asInts (a ++ b) = asInts a ++ asInts b := by simp [asInts]
theorem asInts_one (l : List Nat) : ∀ u ∈ asInts l, u.oneCell' = true := by
  intro u hu
  obtain ⟨j, _, rfl⟩ := List.mem_map.1 hu
  rfl
end Go.Proofs.YtccoeajjomfmnaaDoor
