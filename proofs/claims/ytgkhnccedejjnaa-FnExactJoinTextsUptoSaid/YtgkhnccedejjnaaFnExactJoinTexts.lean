/-
  For all lists of texts and of truths the law FnExactJoinTexts returns true (Join has the texts with a newline between them, and is nil if all errors are), and both lists read as before. Condition: the statement's own bound on the bulk of what is read.
-/
import Derived.Test.YtgkhnccedejjnaaRows
import Derived.Test.YtgkhnccedejjnaaOpen
import Derived.Test.YtgkhnccedejjnaaWJoinTexts
import Derived.WalkKit
import Derived.ProofKit
import Derived.OpenShut
import Derived.ShutString
import Derived.ChangeOld
import Derived.Below
import Derived.SizedLaws
import Derived.JoinedCond
import Derived.Deep.CondSized
namespace Go.Proofs.Ytgkhnccedejjnaa.fnExactJoinTexts
open Go.ChangeShapes Go.WideShapes Go.ChangeAt Go.RowKit
open Go.ChangeMaps (open_string shut_string)
set_option linter.unusedVariables false

theorem own : ownKnob Try.prog.godebug = none := by kernel_rfl
theorem laidOut : laidOutB Try.prog = true := by kernel_rfl

theorem bulk_strs {H : Type} : ∀ ts : List ByteArray, Rows.uptoBulkAll (ts.map fun s => (.lit (.string s.data.toList) : DataW H)) = (ts.map fun s : ByteArray => s.size + 1).sum
  | [] => by simp [Rows.uptoBulkAll]
  | t :: r => by
    have := bulk_strs (H := H) r
    simp only [List.map_cons, Rows.uptoBulkAll, Rows.uptoBulk, List.sum_cons, this]
    simp
theorem length_le_sum : ∀ ts : List ByteArray, ts.length ≤ (ts.map fun s : ByteArray => s.size + 1).sum
  | [] => by simp
  | t :: r => by have := length_le_sum r; simp only [List.map_cons, List.sum_cons, List.length_cons]; omega
theorem tail_le : ∀ ts : List ByteArray, (tailLines ts).length = (ts.map fun s : ByteArray => s.size + 1).sum
  | [] => by simp [tailLines]
  | t :: r => by have := tail_le r; simp only [tailLines] at this; simp [tailLines, this]; omega
theorem lines_le (ts : List ByteArray) : (lines ts).length ≤ (ts.map fun s : ByteArray => s.size + 1).sum := by
  cases ts with
  | nil => simp [lines]
  | cons t r => have := tail_le r; simp only [lines, List.length_append, this, List.map_cons, List.sum_cons]; simp
theorem kept_sum : ∀ (ts : List ByteArray) (bs : List Bool), ((kept ts bs).map fun s : ByteArray => s.size + 1).sum ≤ (ts.map fun s : ByteArray => s.size + 1).sum
  | [], _ => by simp [kept]
  | t :: r, [] => by have := kept_sum r []; simp only [kept, List.map_cons, List.sum_cons]; omega
  | t :: r, b :: bs => by
    have := kept_sum r bs
    cases b
    · simp only [kept, Bool.false_eq_true, if_false, List.map_cons, List.sum_cons]; omega
    · simp only [kept, if_true, List.map_cons, List.sum_cons]; omega
theorem lines_kept_le (ts : List ByteArray) (bs : List Bool) : (lines (kept ts bs)).length ≤ (ts.map fun s : ByteArray => s.size + 1).sum := Nat.le_trans (lines_le _) (kept_sum ts bs)

theorem contract (H : Type) (enc : TypeId × Value → H) (W : World) (base : Nat) (args : Array Value) (ds gs : List (DataW H)) (before : List MemPlace)
    (hval : ∀ (j : Nat) t v, Try.f5.params[j]? = some t → args[j]? = some v → Value.okWide Try.prog W .any base t v)
    (hW : DataW.Whole enc Try.prog Try.f5.params.toList Rows.fnExactJoinTextsSpec.vars false W args.toList ds gs before) (hk : Rows.uptoSmall H (ds ++ gs) = true)
    (hsz : (DataW.weightsEach Try.prog (Try.f5.params.toList ++ Rows.fnExactJoinTextsSpec.plain.varTypes Try.prog) (ds ++ gs)).all (· ≤ reachBytes) = true) :
    Calls Try.prog 5 args W fun e W' => ∃ v, e = .returned v ∧ Rows.fnExactJoinTextsSpec.post enc Try.prog Try.f5 false true false false W args v W' := by
  have hW' := hW
  obtain ⟨p, q, hA0, hV, rfl, hfz, hnd⟩ := hW
  have hA : DataW.TrodAll enc Try.prog W 0 (fun _ => true) true Try.f5.params.toList args.toList ds p := hA0
  rw [Try.params5] at hA hval
  obtain ⟨v0, vs0, d0, ds0, p0, q0, hargs, rfl, rfl, h0, r0⟩ := trodAll_cons hA
  obtain ⟨v1, vs1, d1, ds1, p1, q1, rfl, rfl, rfl, h1, r1⟩ := trodAll_cons r0
  obtain ⟨rfl, rfl, rfl⟩ := trodAll_nil r1
  obtain rfl : args = #[v0, v1] := by cases args; simp_all
  obtain ⟨rfl, rfl⟩ := trodVars_none hV
  obtain ⟨a0, len0, cap0, hv0⟩ := okWide_slice Try.underlying25 (hval 0 25 v0 rfl rfl)
  have k0 := h0
  have lt0 : ∀ x ∈ p0, x.block < W.heap.size := by obtain ⟨m, hm⟩ := k0; exact DataW.trod_lt m _ _ _ hm
  obtain ⟨ts, sp0, w0, e0⟩ := open_strs_list Try.underlying25 Try.underlying9 (by kernel_rfl) hv0 h0
  obtain ⟨a1, len1, cap1, hv1⟩ := okWide_slice Try.underlying26 (hval 1 26 v1 rfl rfl)
  have k1 := h1
  have lt1 : ∀ x ∈ p1, x.block < W.heap.size := by obtain ⟨m, hm⟩ := k1; exact DataW.trod_lt m _ _ _ hm
  obtain ⟨bs, w1⟩ := open_bools_list Try.underlying26 Try.underlying4 (by kernel_rfl) hv1 h1
  clear hA0 hval
  have hb : Rows.uptoBulkAll ([d0, d1] ++ [] : List (DataW H)) ≤ 1048576 := of_decide_eq_true hk
  have hsum : (ts.map fun s : ByteArray => s.size + 1).sum ≤ 1048576 := by
    rcases e0 with ⟨_, rfl⟩ | rfl
    · simp
    · have := bulk_strs (H := H) ts
      simp only [List.append_nil, Rows.uptoBulkAll, Rows.uptoBulk] at hb
      omega
  have := wJoinTexts v0 v1 ts bs W w0 w1 (Nat.le_trans (length_le_sum ts) (by omega)) (Nat.le_trans (lines_kept_le ts bs) (by omega))
  refine this.mono fun e W' ⟨he, bel⟩ => ?_
  subst he
  exact ⟨_, rfl, _, _, _, [], _, [], hW', trodAll_mk1 (shut_bool Try.underlying4 _), (trodAll_cons_mk (Below.trod laidOut (by kernel_rfl) (of_decide_eq_true (by kernel_rfl)) k0 bel lt0) (trodAll_cons_mk (Below.trod laidOut (by kernel_rfl) (of_decide_eq_true (by kernel_rfl)) k1 bel lt1) trodAll_mk0)), rfl, bel.frame _, fun h => by cases h⟩

set_option maxRecDepth 100000 in
theorem lifted (os : Os) (started : os.Started) (H : Type) (enc : TypeId × Value → H) (F : Stop.Interp) :
    ReturnsInHanded {} Try.checked os 5 .any ((Rows.OpenSpec.upto Rows.fnExactJoinTextsSpec).pre6 enc Try.prog Try.f5 Rows.fnExactJoinTextsUptoRow.domain false) (((Rows.OpenSpec.upto Rows.fnExactJoinTextsSpec).at F).post enc Try.prog Try.f5 false true false false) := by
  refine returnsInHanded_of_cond_sized (C := Try.checked) (s := Rows.OpenSpec.upto Rows.fnExactJoinTextsSpec) (k := Rows.uptoSmall) rfl own started (by kernel_rfl) Try.func5
    (OpenSpec.witness (enc := enc) (C := Try.checked) (s := Rows.OpenSpec.upto Rows.fnExactJoinTextsSpec) (k := Rows.uptoSmall) rfl false ⟨#[], #[.slice none 0 0, .slice none 0 0], []⟩ 8 (by kernel_rfl) (by kernel_rfl) (by kernel_rfl)
      (x := ([.nil, .nil], [], [])) (by kernel_rfl) rfl (by kernel_rfl)) ?_
  intro W base args ds gs before hval hW _ hk hsz _
  exact contract H enc W base args ds gs before hval hW hk hsz

/-- The statement. -/
theorem proved : Rows.FnExactJoinTextsUptoSaid :=
  OpenClaim.holds_of_cond 5 Try.f5 rfl rfl rfl rfl rfl rfl rfl ⟨rfl, rfl, rfl, rfl, rfl⟩ rfl rfl rfl rfl rfl (by kernel_rfl) Try.func5 (by kernel_rfl)
    (of_decide_eq_true (by kernel_rfl)) (by unfold Func.isWrapper; first | (rw [if_pos (by decide +kernel)]; kernel_rfl) | (rw [if_neg (by decide +kernel)]; exact ⟨rfl, rfl⟩))
    (fun os started H enc _ F => lifted os started H enc F)
#print axioms proved
end Go.Proofs.Ytgkhnccedejjnaa.fnExactJoinTexts
