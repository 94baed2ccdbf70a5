/-
  Texts with one more that is left out. Plain mathematics, no program.
  Conditions: none.
-/
import Derived.Test.YtgkhnccedejjnaaWJoinTwice
namespace Go.Proofs.Ytgkhnccedejjnaa

/-- The first n of some truths, false for those that there are not. -/
def padB (bs : List Bool) (n : Nat) : List Bool := (List.range n).map fun k => bs.getD k false
theorem padB_length (bs : List Bool) (n : Nat) : (padB bs n).length = n := by simp [padB]
theorem padB_succ (bs : List Bool) (n : Nat) : padB bs (n + 1) = bs.getD 0 false :: padB bs.tail n := by
  unfold padB
  rw [List.range_succ_eq_map, List.map_cons, List.map_map]
  congr 1
  refine List.map_congr_left fun k _ => ?_
  cases bs with
  | nil => rfl
  | cons b r => rfl
theorem kept_more (m : ByteArray) : ∀ (ts : List ByteArray) (bs : List Bool), kept (ts ++ [m]) (padB bs ts.length ++ [true]) = kept ts bs
  | [], bs => by simp [padB, kept]
  | t :: r, bs => by
    rw [List.length_cons, padB_succ, List.cons_append, List.cons_append]
    have ih := kept_more m r bs.tail
    cases bs with
    | nil => simp only [kept, List.getD_nil, Bool.false_eq_true, if_false, ih, List.tail_nil] at *
    | cons b q => simp only [kept, List.getD_cons_zero, List.tail_cons] at *; rw [ih]
theorem kept_short {n : Nat} : ∀ (ts : List ByteArray) (bs : List Bool), (∀ s ∈ ts, s.size ≤ n) → ∀ s ∈ kept ts bs, s.size ≤ n
  | [], _, _ => by simp [kept]
  | t :: r, [], h => by
    intro s hs
    simp only [kept, List.mem_cons] at hs
    rcases hs with rfl | hs
    · exact h _ (by simp)
    · exact kept_short r [] (fun s hs => h s (by simp [hs])) s hs
  | t :: r, b :: bs, h => by
    intro s hs
    simp only [kept] at hs
    split at hs
    · exact kept_short r bs (fun s hs => h s (by simp [hs])) s hs
    · rcases List.mem_cons.1 hs with rfl | hs
      · exact h _ (by simp)
      · exact kept_short r bs (fun s hs => h s (by simp [hs])) s hs
theorem kept_le : ∀ (ts : List ByteArray) (bs : List Bool), (kept ts bs).length ≤ ts.length
  | [], _ => by simp [kept]
  | t :: r, [] => by simp only [kept, List.length_cons]; have := kept_le r []; omega
  | t :: r, b :: bs => by
    have := kept_le r bs
    simp only [kept]
    split
    · simp only [List.length_cons]; omega
    · simp only [List.length_cons]; omega
end Go.Proofs.Ytgkhnccedejjnaa
