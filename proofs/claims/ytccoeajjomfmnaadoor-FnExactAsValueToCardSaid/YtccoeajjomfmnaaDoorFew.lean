/-
  Bounds on nodes: how many there are, and how many kids each has. Plain mathematics, no program.
  Conditions: none.
-/
import Derived.Test.YtccoeajjomfmnaaDoorDrawN
import Derived.Test.YtccoeajjomfmnaaDoorPlain2
namespace Go.Proofs.YtccoeajjomfmnaaDoor

/-- Nodes of which there are few, with few kids. -/
structure Few (ns : List Nd) : Prop where
  len : ns.length ≤ 1048576
  kids : ∀ nd ∈ ns, nd.kids.length ≤ 1048576
theorem Few.len' {ns : List Nd} (h : Few ns) : ns.length ≤ 68719476736 := by have := h.len; omega
theorem Few.kids' {ns : List Nd} (h : Few ns) : ∀ nd ∈ ns, nd.kids.length ≤ 68719476736 := fun nd hnd => by have := h.kids nd hnd; omega
theorem Few.drawn {ns : List Nd} (h : Drawn8 ns) : Few ns := ⟨by have := h.len; omega, fun nd hnd => by have := h.kids nd hnd; omega⟩
theorem Few.cut {ns : List Nd} (h : Drawn8 ns) : Few (cutN ns) := by
  refine ⟨by rw [cutN_length]; have := h.len; omega, fun nd hnd => ?_⟩
  obtain ⟨x, hx, rfl⟩ := List.mem_map.1 hnd
  have h1 := flat_le (cutKid ns.length x.kind) (fun y => cutKid_one _ _ y) x.kids
  have h2 := h.kids x hx
  show (x.kids.flatMap (cutKid ns.length x.kind)).length ≤ 1048576
  omega
/-- Few nodes by numbers. -/
def Fewer (n k : Nat) (ns : List Nd) : Prop := ns.length ≤ n ∧ ∀ nd ∈ ns, nd.kids.length ≤ k
theorem Fewer.cut {n k : Nat} {ns : List Nd} (h : Fewer n k ns) : Fewer n k (cutN ns) := by
  refine ⟨by rw [cutN_length]; exact h.1, fun nd hnd => ?_⟩
  obtain ⟨x, hx, rfl⟩ := List.mem_map.1 hnd
  have h1 := flat_le (cutKid ns.length x.kind) (fun y => cutKid_one _ _ y) x.kids
  have h2 := h.2 x hx
  show (x.kids.flatMap (cutKid ns.length x.kind)).length ≤ k
  omega
theorem Fewer.drawn {ns : List Nd} (h : Drawn8 ns) : Fewer 8 3 ns := ⟨h.len, h.kids⟩
theorem Fewer.above {n k : Nat} {ns : List Nd} (h : Fewer n k ns) (hk : 1 ≤ k) (kind : ByteArray) : Fewer (n + 1) k (aboveN kind ns []) := by
  refine ⟨by simp [aboveN]; exact h.1, fun nd hnd => ?_⟩
  rcases List.mem_cons.1 hnd with rfl | hnd
  · exact hk
  · obtain ⟨x, hx, rfl⟩ := List.mem_map.1 hnd
    have h1 := flat_le (upKid 1) (fun y => upKid_one _ y) x.kids
    have h2 := h.2 x hx
    show (x.kids.flatMap (upKid 1)).length ≤ k
    omega
theorem Fewer.beside {n m k : Nat} {a b : List Nd} (ha : Fewer n k a) (hb : Fewer m k b) (hk : 2 ≤ k) (hc : Cutted a) : Fewer (1 + n + m) k (besideN a b) := by
  refine ⟨by rw [beside_length a b hc]; have := ha.1; have := hb.1; omega, fun nd hnd => ?_⟩
  rw [beside_eq hc] at hnd
  rcases List.mem_append.1 hnd with hnd | hnd
  · rw [List.mem_singleton] at hnd
    subst hnd
    show (if a.length = 0 then [0, 1] else [1, 1 + (a.length : Int)]).length ≤ k
    split <;> simpa using hk
  · rcases List.mem_append.1 hnd with hnd | hnd
    · obtain ⟨x, hx, rfl⟩ := List.mem_map.1 hnd
      have h1 := flat_le (upKid 1) (fun y => upKid_one _ y) x.kids
      have h2 := ha.2 x hx
      show (x.kids.flatMap (upKid 1)).length ≤ k
      omega
    · obtain ⟨x, hx, rfl⟩ := List.mem_map.1 hnd
      have h1 := flat_le (upKid (1 + (a.length : Int))) (fun y => upKid_one _ y) x.kids
      have h2 := hb.2 x hx
      show (x.kids.flatMap (upKid (1 + (a.length : Int)))).length ≤ k
      omega
theorem Fewer.few {n k : Nat} {ns : List Nd} (h : Fewer n k ns) (hn : n ≤ 1048576) (hk : k ≤ 1048576) : Few ns := ⟨Nat.le_trans h.1 hn, fun nd hnd => Nat.le_trans (h.2 nd hnd) hk⟩
theorem Fewer.l64 {n k : Nat} {ns : List Nd} (h : Fewer n k ns) (hn : n ≤ 1048576) : ns.length * 64 ≤ 140737488351232 := by have := h.1; omega

theorem beside_cut (a b : List Nd) : besideN a b = besideN (cutN a) b := by
  unfold besideN
  rw [cutN_id (cutN_cutted a), cutN_length]
theorem Fewer.besideC {n m k : Nat} {a b : List Nd} (ha : Fewer n k a) (hb : Fewer m k b) (hk : 2 ≤ k) : Fewer (1 + n + m) k (besideN a b) := by
  rw [beside_cut]
  exact ha.cut.beside hb hk (cutN_cutted a)
end Go.Proofs.YtccoeajjomfmnaaDoor
