/-
  What errors.AsType finds: plain mathematics, and the pointer that it keeps.
  Conditions: none.
-/
import Derived.Test.YtccoeajjomfmnaaDoorForest
import Derived.Test.YtccoeajjomfmnaaDoorPlain2
namespace Go.Proofs.YtccoeajjomfmnaaDoor

theorem findSome_append {α β : Type} (f : α → Option β) : ∀ a b : List α, (a ++ b).findSome? f = (a.findSome? f).or (b.findSome? f)
  | [], b => by simp
  | x :: a, b => by
    rw [List.cons_append, List.findSome?_cons, List.findSome?_cons]
    cases f x with
    | none => exact findSome_append f a b
    | some y => rfl
theorem findSome_flat {α β γ : Type} (g : γ → List α) (f : α → Option β) : ∀ l : List γ, (l.flatMap g).findSome? f = l.findSome? fun x => (g x).findSome? f
  | [] => rfl
  | x :: l => by
    rw [List.flatMap_cons, findSome_append, List.findSome?_cons, findSome_flat g f l]
    cases (g x).findSome? f <;> rfl
theorem some_tree {β : Type} (ns : List Nd) (H : Nat → Option β) (i : Nat) (hi : i < ns.length) : (treeOf ns i).findSome? H = (H i).or ((kidsOf ns i).findSome? fun j => (treeOf ns j).findSome? H) := by
  rw [treeOf_eq ns i hi, List.findSome?_cons, findSome_flat]
  cases H i <;> rfl
end Go.Proofs.YtccoeajjomfmnaaDoor
