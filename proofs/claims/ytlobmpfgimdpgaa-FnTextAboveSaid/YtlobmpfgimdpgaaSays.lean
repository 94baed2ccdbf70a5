/-
  The text of an error of nodes, as data, and the methods Error: each error of nodes says its text.
  Conditions: texts of at most 2^40 bytes.
-/
import Derived.Test.YtlobmpfgimdpgaaJoinErr
import Derived.Test.YtlobmpfgimdpgaaEs
import Derived.Test.YtlobmpfgimdpgaaForest
import Derived.Test.YtlobmpfgimdpgaaPlain
import Derived.Test.YtlobmpfgimdpgaaMem2
namespace Go.Proofs.Ytlobmpfgimdpgaa
open Go.RowKit Go.Lib

/-- The text of a node; so many steps are enough. -/
def textF (ns : List Nd) : Nat → Nat → ByteArray
  | 0, _ => ⟨#[]⟩
  | f + 1, i => match ns[i]? with
    | none => ⟨#[]⟩
    | some nd => match kindOf nd.kind with
      | some .value => kValue
      | some .list => kList
      | some .alike => kAlike
      | some .acts => kActs
      | some .join => ⟨(lines ((kidsOf ns i).map (textF ns f))).toArray⟩
      | _ => nd.text
def textOf (ns : List Nd) (i : Nat) : ByteArray := textF ns (ns.length - i) i

theorem textF_enough (ns : List Nd) : ∀ (f i : Nat), i < ns.length → ns.length - i ≤ f → textF ns f i = textOf ns i := by
  have key : ∀ (m f g i : Nat), i < ns.length → ns.length - i ≤ m → ns.length - i ≤ f → ns.length - i ≤ g → textF ns f i = textF ns g i := by
    intro m
    induction m with
    | zero => intro f g i hi hm; omega
    | succ m ih =>
      intro f g i hi hm hf hg
      obtain ⟨f', rfl⟩ : ∃ f', f = f' + 1 := ⟨f - 1, by omega⟩
      obtain ⟨g', rfl⟩ : ∃ g', g = g' + 1 := ⟨g - 1, by omega⟩
      have hk : (kidsOf ns i).map (textF ns f') = (kidsOf ns i).map (textF ns g') := List.map_congr_left fun j hj => by
        have := kidsOf_mem hj
        exact ih f' g' j this.2.1 (by omega) (by omega) (by omega)
      simp only [textF, hk]
  intro f i hi h
  exact key _ _ _ _ hi (Nat.le_refl _) h (Nat.le_refl _)
theorem textOf_eq (ns : List Nd) (i : Nat) (nd : Nd) (hn : ns[i]? = some nd) : textOf ns i = match kindOf nd.kind with
    | some .value => kValue
    | some .list => kList
    | some .alike => kAlike
    | some .acts => kActs
    | some .join => ⟨(lines ((kidsOf ns i).map (textOf ns))).toArray⟩
    | _ => nd.text := by
  have hi := lt_of_get hn
  conv => lhs; unfold textOf
  obtain ⟨f, hf⟩ : ∃ f, ns.length - i = f + 1 := ⟨ns.length - i - 1, by omega⟩
  rw [hf]
  have hk : (kidsOf ns i).map (textF ns f) = (kidsOf ns i).map (textOf ns) := List.map_congr_left fun j hj => by
    have := kidsOf_mem hj
    exact textF_enough ns f j this.2.1 (by omega)
  simp only [textF, hn, hk]

theorem lines_sum : ∀ ts : List ByteArray, (lines ts).length ≤ (ts.map fun s : ByteArray => s.size + 1).sum := by
  have tail : ∀ ts : List ByteArray, (tailLines ts).length = (ts.map fun s : ByteArray => s.size + 1).sum := by
    intro ts
    induction ts with
    | nil => simp [tailLines]
    | cons t r ih => simp only [tailLines] at ih; simp [tailLines, ih]; omega
  intro ts
  cases ts with
  | nil => simp [lines]
  | cons t r => have := tail r; simp only [lines, List.length_append, this, List.map_cons, List.sum_cons]; simp
theorem sum_le_sum {l : List Nat} {f g : Nat → Nat} (h : ∀ x ∈ l, f x ≤ g x) : (l.map f).sum ≤ (l.map g).sum := by
  induction l with
  | nil => simp
  | cons a r ih =>
    have h1 := h a (by simp)
    have h2 := ih (fun x hx => h x (by simp [hx]))
    simp only [List.map_cons, List.sum_cons]
    omega
theorem sum_mul (l : List Nat) (f : Nat → Nat) (c : Nat) : (l.map fun x => c * f x).sum = c * (l.map f).sum := by
  induction l with
  | nil => simp
  | cons a r ih => simp only [List.map_cons, List.sum_cons, ih, Nat.mul_add]
/-- Texts are no longer than the trees are large. -/
theorem textOf_size (ns : List Nd) (M : Nat) (hM : 5 ≤ M) (h : ∀ nd ∈ ns, nd.text.size ≤ M) : ∀ (m i : Nat), i < ns.length → ns.length - i ≤ m → (textOf ns i).size + 1 ≤ (M + 1) * treeLen ns i := by
  intro m
  induction m with
  | zero => intro i hi hm; omega
  | succ m ih =>
    intro i hi hm
    have hn : ns[i]? = some ns[i] := List.getElem?_eq_getElem hi
    have htl := treeLen_eq ns i hi
    have h1 : M + 1 ≤ (M + 1) * treeLen ns i := Nat.le_mul_of_pos_right _ (by omega)
    have ht := h ns[i] (List.getElem_mem hi)
    rw [textOf_eq ns i _ hn]
    have hjoin : (lines ((kidsOf ns i).map (textOf ns))).length + 1 ≤ (M + 1) * treeLen ns i := by
      have h2 := lines_sum ((kidsOf ns i).map (textOf ns))
      rw [List.map_map] at h2
      have h3 : ((kidsOf ns i).map ((fun s : ByteArray => s.size + 1) ∘ textOf ns)).sum ≤ ((kidsOf ns i).map fun j => (M + 1) * treeLen ns j).sum := sum_le_sum fun j hj => by
        have := kidsOf_mem hj
        exact ih j this.2.1 (by omega)
      rw [sum_mul] at h3
      rw [htl, Nat.mul_add, Nat.mul_one]
      omega
    cases hk : kindOf ns[i].kind with
    | none => simp only; omega
    | some k =>
      cases k <;> simp only
      case join =>
        show (lines ((kidsOf ns i).map (textOf ns))).toArray.size + 1 ≤ _
        simpa using hjoin
      case value => have : kValue.size = 5 := rfl; omega
      case list => have : kList.size = 4 := rfl; omega
      case alike => have : kAlike.size = 5 := rfl; omega
      case acts => have : kActs.size = 4 := rfl; omega
      all_goals omega

theorem err_wrap (b : Nat) (s : ByteArray) (w : World) (h : w.cell? ⟨b, 0, none⟩ = some (.string s)) : Calls Try.prog 73 #[.pointer (some ⟨b, 0, none⟩)] w fun e w' => e = .returned (.string s) ∧ Below w.heap.size w w' := by
  go_enter Try.func73, Try.ntmps73
  go_wp2
  go_ret
  exact ⟨rfl, Below.refl _ _⟩
theorem err_many (b : Nat) (s : ByteArray) (w : World) (h : w.cell? ⟨b, 0, none⟩ = some (.string s)) : Calls Try.prog 75 #[.pointer (some ⟨b, 0, none⟩)] w fun e w' => e = .returned (.string s) ∧ Below w.heap.size w w' := by
  go_enter Try.func75, Try.ntmps75
  go_wp2
  go_ret
  exact ⟨rfl, Below.refl _ _⟩
theorem err_alike (a : Value) (w : World) : Calls Try.prog 77 #[a] w fun e w' => e = .returned (.string kAlike) ∧ Below w.heap.size w w' := by
  go_enter Try.func77, Try.ntmps77
  go_wp2
  go_ret
  exact ⟨rfl, Below.refl _ _⟩
theorem err_acts (a : Value) (w : World) : Calls Try.prog 79 #[a] w fun e w' => e = .returned (.string kActs) ∧ Below w.heap.size w w' := by
  go_enter Try.func79, Try.ntmps79
  go_wp2
  go_ret
  exact ⟨rfl, Below.refl _ _⟩
theorem err_value (n : Int) (w : World) : Calls Try.prog 71 #[.agg #[.int .i64 n]] w fun e w' => e = .returned (.string kValue) ∧ Below w.heap.size w w' := by
  go_enter Try.func71, Try.ntmps71
  go_wp2
  go_ret
  first | exact ⟨rfl, Below.refl _ _⟩ | exact ⟨rfl, below_alloc _ _⟩
theorem err_list (n : Int) (c : Nat) (w : World) : Calls Try.prog 72 #[.agg #[.int .i64 n, .slice (some ⟨c, 0, none⟩) 1 1]] w fun e w' => e = .returned (.string kList) ∧ Below w.heap.size w w' := by
  go_enter Try.func72, Try.ntmps72
  go_wp2
  go_ret
  first | exact ⟨rfl, Below.refl _ _⟩ | exact ⟨rfl, below_alloc _ _⟩
theorem methE_text (n : Nat) (v : Value) (w : World) : (Go.method (n + 1) 101 v "Error").run Try.prog w = .ok (81, v) w := by kernel_rfl
theorem entE_text (v : Value) (w : World) : (callFunc 81 #[v]).run Try.prog w = .ok (.enter 81 #[v]) w := by kernel_rfl
theorem methE_value (n : Nat) (v : Value) (w : World) : (Go.method (n + 1) 85 v "Error").run Try.prog w = .ok (71, v) w := by kernel_rfl
theorem entE_value (v : Value) (w : World) : (callFunc 71 #[v]).run Try.prog w = .ok (.enter 71 #[v]) w := by kernel_rfl
theorem methE_list (n : Nat) (v : Value) (w : World) : (Go.method (n + 1) 87 v "Error").run Try.prog w = .ok (72, v) w := by kernel_rfl
theorem entE_list (v : Value) (w : World) : (callFunc 72 #[v]).run Try.prog w = .ok (.enter 72 #[v]) w := by kernel_rfl
theorem methE_wrap (n : Nat) (v : Value) (w : World) : (Go.method (n + 1) 88 v "Error").run Try.prog w = .ok (73, v) w := by kernel_rfl
theorem entE_wrap (v : Value) (w : World) : (callFunc 73 #[v]).run Try.prog w = .ok (.enter 73 #[v]) w := by kernel_rfl
theorem methE_many (n : Nat) (v : Value) (w : World) : (Go.method (n + 1) 92 v "Error").run Try.prog w = .ok (75, v) w := by kernel_rfl
theorem entE_many (v : Value) (w : World) : (callFunc 75 #[v]).run Try.prog w = .ok (.enter 75 #[v]) w := by kernel_rfl
theorem methE_join (n : Nat) (v : Value) (w : World) : (Go.method (n + 1) 104 v "Error").run Try.prog w = .ok (82, v) w := by kernel_rfl
theorem entE_join (v : Value) (w : World) : (callFunc 82 #[v]).run Try.prog w = .ok (.enter 82 #[v]) w := by kernel_rfl
theorem methE_alike (n : Nat) (v : Value) (w : World) : (Go.method (n + 1) 96 v "Error").run Try.prog w = .ok (77, v) w := by kernel_rfl
theorem entE_alike (v : Value) (w : World) : (callFunc 77 #[v]).run Try.prog w = .ok (.enter 77 #[v]) w := by kernel_rfl
theorem methE_acts (n : Nat) (v : Value) (w : World) : (Go.method (n + 1) 99 v "Error").run Try.prog w = .ok (79, v) w := by kernel_rfl
theorem entE_acts (v : Value) (w : World) : (callFunc 79 #[v]).run Try.prog w = .ok (.enter 79 #[v]) w := by kernel_rfl

theorem says_any {w : World} {ns : List Nd} {adr : Nat → Nat} {sl : Nat → Value} {base : Nat} (L : Lies w ns adr sl base 0) (hkl : ∀ nd ∈ ns, nd.kids.length ≤ 68719476736) (hsz : ∀ j, j < ns.length → (textOf ns j).size ≤ 1099511627776) :
    ∀ (m i : Nat), ns.length - i ≤ m → isThere ns i = true → Says w (valOf ns adr sl i) (textOf ns i) := by
  intro m
  induction m with
  | zero => intro i hm hi; have := isThere_lt hi; omega
  | succ m ih =>
    intro i hm hi
    obtain ⟨nd, k, hn, hk⟩ := isThere_kind hi
    have hm1 := L.mem i nd k (Nat.zero_le _) hn hi hk
    have hil := isThere_lt hi
    have hteq := textOf_eq ns i nd hn
    simp only [hk] at hteq
    rw [valOf_there hi hn hk]
    cases k
    case text =>
      rw [hteq]
      refine ⟨_, _, _, _, rfl, fun n W => methE_text n _ W, fun W => entE_text _ W, fun w' hw => ?_⟩
      refine (esError_any ⟨adr i, 0, none⟩ nd.text w' (cell_keep hw (cell_of_heap hm1 0 rfl))).mono ?_
      rintro e w'' ⟨rfl, rfl⟩
      exact ⟨rfl, Below.refl _ _⟩
    case value =>
      rw [hteq]
      exact ⟨_, _, _, _, rfl, fun n W => methE_value n _ W, fun W => entE_value _ W, fun w' hw => err_value _ w'⟩
    case list =>
      rw [hteq]
      obtain ⟨c, hc⟩ := hm1
      simp only [errBy, hc]
      exact ⟨_, _, _, _, rfl, fun n W => methE_list n _ W, fun W => entE_list _ W, fun w' hw => err_list _ c w'⟩
    case wrap =>
      rw [hteq]
      exact ⟨_, _, _, _, rfl, fun n W => methE_wrap n _ W, fun W => entE_wrap _ W, fun w' hw => err_wrap (adr i) nd.text w' (cell_keep hw (cell_of_heap hm1 0 rfl))⟩
    case many =>
      rw [hteq]
      exact ⟨_, _, _, _, rfl, fun n W => methE_many n _ W, fun W => entE_many _ W, fun w' hw => err_many (adr i) nd.text w' (cell_keep hw (cell_of_heap hm1 0 rfl))⟩
    case alike =>
      rw [hteq]
      exact ⟨_, _, _, _, rfl, fun n W => methE_alike n _ W, fun W => entE_alike _ W, fun w' hw => err_alike _ w'⟩
    case acts =>
      rw [hteq]
      exact ⟨_, _, _, _, rfl, fun n W => methE_acts n _ W, fun W => entE_acts _ W, fun w' hw => err_acts _ w'⟩
    case join =>
      have hrow := Vals.of_own (L.row i nd .join (Nat.zero_le _) hn hi hk (.inr rfl))
      have hsi := hsz i hil
      have hkids : ∀ j ∈ kidsOf ns i, Says w (valOf ns adr sl j) (textOf ns j) := fun j hj => by
        have := kidsOf_mem hj
        exact ih j (by omega) this.2.2
      have hne : 0 < (kidsOf ns i).length := by
        have := isThere_eq ns i nd hn
        rw [hi] at this
        simp only [hk] at this
        obtain ⟨x, hx, hs⟩ := List.any_eq_true.1 this.symm
        obtain ⟨j, hj⟩ := Option.isSome_iff_exists.1 hs
        have hmem : j ∈ kidsOf ns i := by
          unfold kidsOf
          rw [hn]
          simp only [hk, kidsBy]
          exact List.mem_filterMap.2 ⟨x, hx, hj⟩
        exact List.length_pos_of_mem hmem
      have hkn : (kidsOf ns i).length ≤ 68719476736 := kidsOf_length ns i _ hkl
      refine ⟨_, _, _, _, rfl, fun n W => methE_join n _ W, fun W => entE_join _ W, fun w' hw => ?_⟩
      have hcell := cell_keep hw (cell_of_heap hm1 0 rfl)
      rw [hteq] at hsi ⊢
      have hsi2 : (lines ((kidsOf ns i).map (textOf ns))).length ≤ 1099511627776 := by
        have h : (lines ((kidsOf ns i).map (textOf ns))).toArray.size ≤ 1099511627776 := hsi
        simpa using h
      have hv := hrow.keep hw
      cases hks : kidsOf ns i with
      | nil => rw [hks] at hne; simp at hne
      | cons j r =>
        rw [hks] at hv hsi2 hkids hkn
        cases r with
        | nil =>
          have e : (⟨(lines ([j].map (textOf ns))).toArray⟩ : ByteArray) = textOf ns j := by simp [lines, tailLines]
          rw [e]
          exact joinError_one (adr i) (sl i) _ _ w' hcell hv ((hkids j (by simp)).keep hw)
        | cons j2 r2 =>
          simp only [List.map_cons] at hv hsi2 ⊢
          refine joinError_many (adr i) (sl i) _ (textOf ns j) _ (textOf ns j2 :: r2.map (textOf ns)) w' hcell hv (by simp) (by simp) ((hkids j (by simp)).keep hw) ?_ hsi2 (by simp at hkn ⊢; omega)
          intro q x s hx hs
          have hx' : ((j2 :: r2).map (valOf ns adr sl))[q]? = some x := by simpa using hx
          have hs' : ((j2 :: r2).map (textOf ns))[q]? = some s := by simpa using hs
          rw [List.getElem?_map, Option.map_eq_some_iff] at hx' hs'
          obtain ⟨a, ha, rfl⟩ := hx'
          obtain ⟨a', ha', rfl⟩ := hs'
          rw [ha] at ha'
          injection ha' with ha'
          subst ha'
          exact (hkids a (by simp only [List.mem_cons]; exact .inr (List.mem_cons.1 (List.mem_of_getElem? ha)))).keep hw
end Go.Proofs.Ytlobmpfgimdpgaa
