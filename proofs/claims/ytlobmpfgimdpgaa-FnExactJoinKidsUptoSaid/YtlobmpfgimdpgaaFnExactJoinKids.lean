/-
  For all lists of nodes and of indices the law FnExactJoinKids returns true (Join wraps the errors that are not nil, in order), and both lists read as before. Condition: the statement's own bound on the bulk of what is read.
-/
import Derived.Test.YtlobmpfgimdpgaaRows
import Derived.Test.YtlobmpfgimdpgaaOpen
import Derived.Test.YtlobmpfgimdpgaaOpenN
import Derived.Test.YtlobmpfgimdpgaaWJoinKids
import Derived.WalkKit
import Derived.ProofKit
import Derived.OpenShut
import Derived.ShutString
import Derived.ChangeOld
import Derived.Below
import Derived.SizedLaws
import Derived.JoinedCond
import Derived.Deep.CondSized
namespace Go.Proofs.Ytlobmpfgimdpgaa.fnExactJoinKids
open Go.ChangeShapes Go.WideShapes Go.ChangeAt Go.RowKit
open Go.ChangeMaps (open_string shut_string)
set_option linter.unusedVariables false

theorem own : ownKnob Try.prog.godebug = none := by kernel_rfl
theorem laidOut : laidOutB Try.prog = true := by kernel_rfl

theorem bulk_ints {H : Type} : ∀ l : List Int, Rows.uptoBulkAll (l.map fun n => (.lit (.int .i64 n) : DataW H)) = l.length
  | [] => by simp [Rows.uptoBulkAll]
  | t :: r => by
    have := bulk_ints (H := H) r
    simp only [List.map_cons, Rows.uptoBulkAll, Rows.uptoBulk, this, List.length_cons]
    omega

set_option maxRecDepth 100000 in
theorem contract (H : Type) (enc : TypeId × Value → H) (W : World) (base : Nat) (args : Array Value) (ds gs : List (DataW H)) (before : List MemPlace)
    (hval : ∀ (j : Nat) t v, Try.f6.params[j]? = some t → args[j]? = some v → Value.okWide Try.prog W .any base t v)
    (hW : DataW.Whole enc Try.prog Try.f6.params.toList Rows.fnExactJoinKidsSpec.vars false W args.toList ds gs before) (hk : Rows.uptoSmall H (ds ++ gs) = true)
    (hsz : (DataW.weightsEach Try.prog (Try.f6.params.toList ++ Rows.fnExactJoinKidsSpec.plain.varTypes Try.prog) (ds ++ gs)).all (· ≤ reachBytes) = true) :
    Calls Try.prog 6 args W fun e W' => ∃ v, e = .returned v ∧ Rows.fnExactJoinKidsSpec.post enc Try.prog Try.f6 false true false false W args v W' := by
  have hW' := hW
  obtain ⟨p, q, hA0, hV, rfl, hfz, hnd⟩ := hW
  have hA : DataW.TrodAll enc Try.prog W 0 (fun _ => true) true Try.f6.params.toList args.toList ds p := hA0
  rw [Try.params6] at hA hval
  obtain ⟨v0, vs0, d0, ds0, p0, q0, hargs, rfl, rfl, h0, r0⟩ := trodAll_cons hA
  obtain ⟨v1, vs1, d1, ds1, p1, q1, rfl, rfl, rfl, h1, r1⟩ := trodAll_cons r0
  obtain ⟨rfl, rfl, rfl⟩ := trodAll_nil r1
  obtain rfl : args = #[v0, v1] := by cases args; simp_all
  obtain ⟨rfl, rfl⟩ := trodVars_none hV
  obtain ⟨a0, len0, cap0, hv0⟩ := okWide_slice Try.underlying22 (hval 0 22 v0 rfl rfl)
  have k0 := h0
  have lt0 : ∀ x ∈ p0, x.block < W.heap.size := by obtain ⟨m, hm⟩ := k0; exact DataW.trod_lt m _ _ _ hm
  obtain ⟨ns, kv0, w0, e0⟩ := open_nodes_list Try.underlying22 Try.underlying59 Try.underlying9 Try.underlying3 Try.underlying47 Try.underlying3 (by kernel_rfl) rfl rfl rfl rfl (by kernel_rfl) (by kernel_rfl) (by kernel_rfl) hv0 h0 (fun el sp hd => sized_slice hsz (j := 0) (t := 22) (e := 59) rfl (by rw [hd]; rfl) Try.underlying22)
  obtain ⟨a1, len1, cap1, hv1⟩ := okWide_slice Try.underlying47 (hval 1 47 v1 rfl rfl)
  have k1 := h1
  have lt1 : ∀ x ∈ p1, x.block < W.heap.size := by obtain ⟨m, hm⟩ := k1; exact DataW.trod_lt m _ _ _ hm
  obtain ⟨l, sp1, w1, e1, b1⟩ := open_ints_list (k := .i64) Try.underlying47 Try.underlying3 (by kernel_rfl) hv1 h1
  clear hA0 hval
  have hb : Rows.uptoBulkAll ([d0, d1] ++ [] : List (DataW H)) ≤ 1048576 := of_decide_eq_true hk
  have hsum : l.length ≤ 1048576 := by
    rcases e1 with ⟨_, rfl⟩ | rfl
    · simp
    · have := bulk_ints (H := H) l
      simp only [List.append_nil, Rows.uptoBulkAll, Rows.uptoBulk] at hb
      omega
  have := wFnExactJoinKids v0 v1 ns kv0 l W w0 w1 e0 (by omega)
  refine this.mono fun e W' ⟨he, bel⟩ => ?_
  subst he
  exact ⟨_, rfl, _, _, _, [], _, [], hW', trodAll_mk1 (shut_bool Try.underlying4 _), (trodAll_cons_mk (Below.trod laidOut (by kernel_rfl) (of_decide_eq_true (by kernel_rfl)) k0 bel lt0) (trodAll_cons_mk (Below.trod laidOut (by kernel_rfl) (of_decide_eq_true (by kernel_rfl)) k1 bel lt1) trodAll_mk0)), rfl, bel.frame _, fun h => by cases h⟩

set_option maxRecDepth 100000 in
theorem lifted (os : Os) (started : os.Started) (H : Type) (enc : TypeId × Value → H) (F : Stop.Interp) :
    ReturnsInHanded {} Try.checked os 6 .any ((Rows.OpenSpec.upto Rows.fnExactJoinKidsSpec).pre6 enc Try.prog Try.f6 Rows.fnExactJoinKidsUptoRow.domain false) (((Rows.OpenSpec.upto Rows.fnExactJoinKidsSpec).at F).post enc Try.prog Try.f6 false true false false) := by
  refine returnsInHanded_of_cond_sized (C := Try.checked) (s := Rows.OpenSpec.upto Rows.fnExactJoinKidsSpec) (k := Rows.uptoSmall) rfl own started (by kernel_rfl) Try.func6
    (OpenSpec.witness (enc := enc) (C := Try.checked) (s := Rows.OpenSpec.upto Rows.fnExactJoinKidsSpec) (k := Rows.uptoSmall) rfl false ⟨#[], #[.slice none 0 0, .slice none 0 0], []⟩ 8 (by kernel_rfl) (by kernel_rfl) (by kernel_rfl)
      (x := ([.nil, .nil], [], [])) (by kernel_rfl) rfl (by kernel_rfl)) ?_
  intro W base args ds gs before hval hW _ hk hsz _
  exact contract H enc W base args ds gs before hval hW hk hsz

/-- The statement. -/
theorem proved : Rows.FnExactJoinKidsUptoSaid :=
  OpenClaim.holds_of_cond 6 Try.f6 rfl rfl rfl rfl rfl rfl rfl ⟨rfl, rfl, rfl, rfl, rfl⟩ rfl rfl rfl rfl rfl (by kernel_rfl) Try.func6 (by kernel_rfl)
    (of_decide_eq_true (by kernel_rfl)) (by unfold Func.isWrapper; first | (rw [if_pos (by decide +kernel)]; kernel_rfl) | (rw [if_neg (by decide +kernel)]; exact ⟨rfl, rfl⟩))
    (fun os started H enc _ F => lifted os started H enc F)
#print axioms proved
end Go.Proofs.Ytlobmpfgimdpgaa.fnExactJoinKids
