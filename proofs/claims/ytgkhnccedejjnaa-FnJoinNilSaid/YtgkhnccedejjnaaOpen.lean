/-
  Arguments that came in, opened: a slice of one-cell values, of strings, of bools, of ints, of bytes, over any program.
  Conditions: none.
-/
import Derived.Test.YtgkhnccedejjnaaMem
import Derived.Deep.Slices
import Derived.Deep.Strs
import Derived.ProofKit
import Derived.OpenShut
import Derived.ChangeSame
namespace Go.Proofs.Ytgkhnccedejjnaa
open Go.RowKit Go.ChangeShapes Go.WideShapes Go.Deep

theorem map_of_all {α β γ : Type} (f : γ → α) (g : γ → β) (Q : γ → Prop) : ∀ (xs : List α) (ds : List β), xs.length = ds.length → (∀ (i : Nat) x d, xs[i]? = some x → ds[i]? = some d → ∃ s, x = f s ∧ d = g s ∧ Q s) → ∃ ss : List γ, xs = ss.map f ∧ ds = ss.map g ∧ ∀ s ∈ ss, Q s
  | [], [], _, _ => ⟨[], rfl, rfl, by simp⟩
  | x :: xs, d :: ds, hl, h => by
    obtain ⟨s, h1, h2, h3⟩ := h 0 x d rfl rfl
    obtain ⟨ss, e1, e2, e3⟩ := map_of_all f g Q xs ds (by simpa using hl) (fun i x d hx hd => h (i + 1) x d (by simpa using hx) (by simpa using hd))
    refine ⟨s :: ss, by simp [h1, e1], by simp [h2, e2], fun s' hs' => ?_⟩
    rcases List.mem_cons.1 hs' with rfl | hs'
    · exact h3
    · exact e3 s' hs'
  | [], _ :: _, hl, _ => by simp at hl
  | _ :: _, [], hl, _ => by simp at hl

section
variable {H : Type} {enc : TypeId × Value → H} {P : Program} {w : World}

theorem open_vals {t e : TypeId} {v : Value} {d : DataW H} {p : List MemPlace} (ht : P.underlying t = some (.slice e)) (hc : P.cellsOf e = 1) {a0 : Option Addr} {l0 c0 : Nat} (hv : v = .slice a0 l0 c0)
    (h : DataW.Trod enc P w 0 (fun _ => true) true t v d p) :
    ∃ (xs : List Value) (ds spare : List (DataW H)), Vals w v xs ∧ xs.length = ds.length ∧ ((d = .nil ∧ ds = []) ∨ d = .slice ds spare) ∧
      ∀ (i : Nat) x y, xs[i]? = some x → ds[i]? = some y → ∃ n pl, DataW.trod enc P w 0 (fun _ => true) true n e [x] = some (y, pl) := by
  subst hv
  obtain ⟨fuel, hf⟩ := h
  rcases open_slice1 ht hc hf with ⟨hcs, hx⟩ | ⟨a, len, cap, m, n, V, D, Pl, hcs, _, hl, hm, hmm, hx, hi⟩
  · simp [Value.cells] at hcs
    obtain ⟨rfl, rfl, rfl⟩ := hcs
    simp only [Prod.mk.injEq] at hx
    exact ⟨[], [], [], Vals.nil w, rfl, .inl ⟨hx.1, rfl⟩, fun i x y hx => by simp at hx⟩
  · simp [Value.cells] at hcs
    obtain ⟨rfl, rfl, rfl⟩ := hcs
    simp only [Prod.mk.injEq] at hx
    simp only [if_true] at hmm
    refine ⟨(List.range l0).map V, (List.range l0).map D, _, ⟨some a, c0, by simp, by simpa using hl, hm, fun hp => ?_⟩, by simp, .inr hx.1, fun i x y hx hy => ?_⟩
    · have hp0 : 0 < l0 := by simpa using hp
      obtain ⟨h0, _⟩ := hi 0 (by omega)
      obtain ⟨b, off, spot⟩ := a
      have hspot : spot = none := by simpa [Addr.add] using World.cell?_spot h0
      subst hspot
      refine ⟨b, off, rfl, fun j u hu => ?_⟩
      rw [List.getElem?_map, Option.map_eq_some_iff] at hu
      obtain ⟨j', hj', rfl⟩ := hu
      have hlt : j < l0 := by
        rcases Nat.lt_or_ge j l0 with h | h
        · exact h
        · rw [List.getElem?_eq_none (by simpa using h)] at hj'; cases hj'
      have e : j' = j := by simpa [hlt] using hj'.symm
      subst e
      have := (hi j' (by omega)).1
      rwa [add_none] at this
    · rw [List.getElem?_map, Option.map_eq_some_iff] at hx hy
      obtain ⟨j', hj', rfl⟩ := hx
      obtain ⟨j2, hj2, rfl⟩ := hy
      rw [hj'] at hj2
      injection hj2 with e
      subst e
      have hlt : j' < l0 := by
        have := List.mem_of_getElem? hj'
        simpa using this
      exact ⟨n, _, (hi j' (by omega)).2⟩

theorem open_strs_list {t e : TypeId} {v : Value} {d : DataW H} {p : List MemPlace} (ht : P.underlying t = some (.slice e)) (he : P.underlying e = some .string) (hc : P.cellsOf e = 1) {a0 : Option Addr} {l0 c0 : Nat} (hv : v = .slice a0 l0 c0)
    (h : DataW.Trod enc P w 0 (fun _ => true) true t v d p) :
    ∃ (ts : List ByteArray) (spare : List (DataW H)), Strs w v ts ∧ ((d = .nil ∧ ts = []) ∨ d = .slice (ts.map fun s => .lit (.string s.data.toList)) spare) := by
  obtain ⟨xs, ds, spare, h1, h2, h3, h4⟩ := open_vals ht hc hv h
  obtain ⟨ts, rfl, rfl, _⟩ := map_of_all Value.string (fun s : ByteArray => (.lit (.string s.data.toList) : DataW H)) (fun _ => True) xs ds h2 (fun i x y hx hy => by
    obtain ⟨n, pl, hn⟩ := h4 i x y hx hy
    obtain ⟨s, e1, e2, _⟩ := DataW.trod_string he hn
    simp only [List.cons.injEq, and_true] at e1
    simp only [Prod.mk.injEq] at e2
    exact ⟨s, e1, e2.1, trivial⟩)
  refine ⟨ts, spare, h1, ?_⟩
  rcases h3 with ⟨h3, h5⟩ | h3
  · exact .inl ⟨h3, by simpa using h5⟩
  · exact .inr h3

theorem open_bools_list {t e : TypeId} {v : Value} {d : DataW H} {p : List MemPlace} (ht : P.underlying t = some (.slice e)) (he : P.underlying e = some .bool) (hc : P.cellsOf e = 1) {a0 : Option Addr} {l0 c0 : Nat} (hv : v = .slice a0 l0 c0)
    (h : DataW.Trod enc P w 0 (fun _ => true) true t v d p) :
    ∃ (bs : List Bool), Bools w v bs := by
  obtain ⟨xs, ds, spare, h1, h2, h3, h4⟩ := open_vals ht hc hv h
  obtain ⟨bs, rfl, rfl, _⟩ := map_of_all Value.bool (fun s : Bool => (.lit (.bool s) : DataW H)) (fun _ => True) xs ds h2 (fun i x y hx hy => by
    obtain ⟨n, pl, hn⟩ := h4 i x y hx hy
    obtain ⟨s, e1, e2⟩ := DataW.trod_bool he hn
    simp only [List.cons.injEq, and_true] at e1
    simp only [Prod.mk.injEq] at e2
    exact ⟨s, e1, e2.1, trivial⟩)
  exact ⟨bs, h1⟩

theorem open_ints_list {k : IntKind} {t e : TypeId} {v : Value} {d : DataW H} {p : List MemPlace} (ht : P.underlying t = some (.slice e)) (he : P.underlying e = some (.int k)) (hc : P.cellsOf e = 1) {a0 : Option Addr} {l0 c0 : Nat} (hv : v = .slice a0 l0 c0)
    (h : DataW.Trod enc P w 0 (fun _ => true) true t v d p) :
    ∃ (l : List Int) (spare : List (DataW H)), Vals w v (l.map (.int k)) ∧ ((d = .nil ∧ l = []) ∨ d = .slice (l.map fun n => .lit (.int k n)) spare) ∧ ∀ n ∈ l, (Lit.int k n).wf = true := by
  obtain ⟨xs, ds, spare, h1, h2, h3, h4⟩ := open_vals ht hc hv h
  obtain ⟨l, rfl, rfl, h5⟩ := map_of_all (Value.int k) (fun n : Int => (.lit (.int k n) : DataW H)) (fun n => (Lit.int k n).wf = true) xs ds h2 (fun i x y hx hy => by
    obtain ⟨n, pl, hn⟩ := h4 i x y hx hy
    obtain ⟨s, e1, e2, e3⟩ := DataW.trod_int he hn
    simp only [List.cons.injEq, and_true] at e1
    simp only [Prod.mk.injEq] at e2
    exact ⟨s, e1, e2.1, e3⟩)
  refine ⟨l, spare, h1, ?_, h5⟩
  rcases h3 with ⟨h3, h6⟩ | h3
  · exact .inl ⟨h3, by simpa using h6⟩
  · exact .inr h3
end
end Go.Proofs.Ytgkhnccedejjnaa
