/-
  For all lists of nodes and all words the law FnExactAsPanics returns true (As panics for a target that is no pointer, a nil pointer, or one to a type that is neither an error nor an interface), and the list reads as before. Conditions: the variable errors.errorType holds what the program's text lays, which the card ties.
-/
import Derived.Test.YtccoeajjomfmnaaDoorRows
import Derived.Test.YtccoeajjomfmnaaDoorCards
import Derived.Test.YtccoeajjomfmnaaDoorTie
import Derived.Test.YtccoeajjomfmnaaDoorOpen
import Derived.Test.YtccoeajjomfmnaaDoorLaid
import Derived.Test.YtccoeajjomfmnaaDoorOpenN
import Derived.Test.YtccoeajjomfmnaaDoorWPanics
import Derived.WalkKit
import Derived.ProofKit
import Derived.OpenShut
import Derived.ShutString
import Derived.ChangeOld
import Derived.Below
import Derived.SizedLaws
import Derived.JoinedCond
import Derived.Deep.CondSized
import Derived.Handed
import Derived.SevenTiedAt
namespace Go.Proofs.YtccoeajjomfmnaaDoor.fnExactAsPanics
open Go.ChangeShapes Go.WideShapes Go.ChangeAt Go.RowKit
open Go.ChangeMaps (open_string shut_string)
set_option linter.unusedVariables false

theorem own : ownKnob Tryd.prog.godebug = none := by kernel_rfl
theorem laidOut : laidOutB Tryd.prog = true := by kernel_rfl

set_option maxRecDepth 100000 in
theorem contract (H : Type) (enc : TypeId × Value → H) (W : World) (base : Nat) (args : Array Value) (ds gs : List (DataW H)) (before : List MemPlace)
    (hval : ∀ (j : Nat) t v, Tryd.f6.params[j]? = some t → args[j]? = some v → Value.okWide Tryd.prog W .any base t v)
    (hW : DataW.Whole enc Tryd.prog Tryd.f6.params.toList Rows.fnExactAsPanicsSpec.vars false W args.toList ds gs before)
    (hsz : (DataW.weightsEach Tryd.prog (Tryd.f6.params.toList ++ Rows.fnExactAsPanicsSpec.plain.varTypes Tryd.prog) (ds ++ gs)).all (· ≤ reachBytes) = true) (hL : laidMetH Tryd.prog theLaid W) :
    Calls Tryd.prog 6 args W fun e W' => ∃ v, e = .returned v ∧ Rows.fnExactAsPanicsSpec.post enc Tryd.prog Tryd.f6 false true false false W args v W' := by
  have hW' := hW
  obtain ⟨p, q, hA0, hV, rfl, hfz, hnd⟩ := hW
  have hA : DataW.TrodAll enc Tryd.prog W 0 (fun _ => true) true Tryd.f6.params.toList args.toList ds p := hA0
  rw [Tryd.params6] at hA hval
  obtain ⟨v0, vs0, d0, ds0, p0, q0, hargs, rfl, rfl, h0, r0⟩ := trodAll_cons hA
  obtain ⟨v1, vs1, d1, ds1, p1, q1, rfl, rfl, rfl, h1, r1⟩ := trodAll_cons r0
  obtain ⟨rfl, rfl, rfl⟩ := trodAll_nil r1
  obtain rfl : args = #[v0, v1] := by cases args; simp_all
  obtain ⟨rfl, rfl⟩ := trodVars_none hV
  obtain ⟨a0, len0, cap0, hv0⟩ := okWide_slice Tryd.underlying27 (hval 0 27 v0 rfl rfl)
  have k0 := h0
  have lt0 : ∀ x ∈ p0, x.block < W.heap.size := by obtain ⟨m, hm⟩ := k0; exact DataW.trod_lt m _ _ _ hm
  obtain ⟨ns, kv0, w0, e0⟩ := open_nodes_list Tryd.underlying27 Tryd.underlying48 Tryd.underlying9 Tryd.underlying3 Tryd.underlying45 Tryd.underlying3 (by kernel_rfl) rfl rfl rfl rfl (by kernel_rfl) (by kernel_rfl) (by kernel_rfl) hv0 h0 (fun el sp hd => sized_slice hsz (j := 0) (t := 27) (e := 48) rfl (by rw [hd]; rfl) Tryd.underlying27)
  obtain ⟨kd, rfl, rfl, rfl, w1⟩ := open_string Tryd.underlying9 (hval 1 9 v1 rfl rfl) h1
  have z1 : kd.size ≤ 140737488351232 := by have := sized_string hsz (j := 1) (t := 9) (bytes := kd.data.toList) rfl rfl; simpa [reachBytes] using this
  clear hA0 hval
  have := wFnExactAsPanics v0 ns kv0 kd W w0 (handle_of_laid hL) e0
  refine this.mono fun e W' ⟨he, bel⟩ => ?_
  subst he
  exact ⟨_, rfl, _, _, _, [], _, [], hW', trodAll_mk1 (shut_bool Tryd.underlying4 _), (trodAll_cons_mk (Below.trod laidOut (by kernel_rfl) (of_decide_eq_true (by kernel_rfl)) k0 bel lt0) (trodAll_cons_mk (shut_string Tryd.underlying9 w1) trodAll_mk0)), rfl, bel.frame _, fun h => by cases h⟩

set_option maxRecDepth 100000 in
theorem lifted (os : Os) (started : os.Started) (H : Type) (enc : TypeId × Value → H) :
    ReturnsInHanded {} Tryd.checked os 6 .any (fun w args => (Rows.fnExactAsPanicsSpec.pre enc Tryd.prog Tryd.f6 Rows.fnExactAsPanicsRow.domain false w args ∧ laidMetH Tryd.prog theLaid w) ∧ sizedMet enc Tryd.prog Tryd.f6 (OpenSpec.ofChange Rows.fnExactAsPanicsSpec) false w args) (Rows.fnExactAsPanicsSpec.post enc Tryd.prog Tryd.f6 false true false false) := by
  refine returnsInHanded_of_change_and (C := Tryd.checked) (X := fun w _ => laidMetH Tryd.prog theLaid w) (fun _ _ _ hh h => h.of_heap hh) own started (by kernel_rfl) Tryd.func6
    (ChangeSpec.witness_at (enc := enc) (C := Tryd.checked) (os := os) (X := fun w _ => laidMetH Tryd.prog theLaid w) false (laidWorld os) #[.slice none 0 0, .string ByteArray.empty] 8 rfl (by kernel_rfl) (by kernel_rfl) (by kernel_rfl) (by kernel_rfl) (by kernel_rfl) (laidWorld_met os _)) ?_
  intro W base args ds gs before hval hW _ hsz hL _
  exact contract H enc W base args ds gs before hval hW hsz hL

/-- The row. -/
theorem row : Rows.FnExactAsPanicsSaid :=
  OpenClaim.holds_of_wide 6 Tryd.f6 rfl rfl rfl rfl rfl rfl rfl ⟨rfl, rfl, rfl, rfl, rfl⟩ rfl rfl rfl rfl rfl (by kernel_rfl) Tryd.func6 (by kernel_rfl)
    (of_decide_eq_true (by kernel_rfl)) (by unfold Func.isWrapper; first | (rw [if_pos (by decide +kernel)]; kernel_rfl) | (rw [if_neg (by decide +kernel)]; exact ⟨rfl, rfl⟩))
    (fun os started H enc _ => lifted os started H enc)

theorem noStand : ∀ (f : FuncId) (fn : Func), Tryd.prog.funcNamed "loop.example/lib-errortrees/laws.FnExactAsPanics" = some f → Tryd.prog.funcs[f]? = some fn → fn.params.all (fun t => !Tryd.prog.wantsStandIn t) = true := by
  intro f fn hf hfn
  obtain rfl : f = 6 := (Option.some.inj ((show Tryd.prog.funcNamed "loop.example/lib-errortrees/laws.FnExactAsPanics" = some 6 by kernel_rfl).symm.trans hf)).symm
  obtain rfl : fn = Tryd.f6 := (Option.some.inj (Tryd.func6.symm.trans hfn)).symm
  kernel_rfl

/-- The statement: the tied card. -/
theorem proved : Rows.FnExactAsPanicsCardSaid :=
  Claim7.holds_tied_plain_at .later [] [.handle] true (true, "0d08591c6b13123c2c8faa27f9e44bc6f2559d8a215c6a9f477f8bac0b9e9a18") true
    row (fun _ h => by cases h) (by kernel_rfl) (fun _ h => by cases h) fnExactAsPanics_row_tie rfl ⟨rfl, rfl⟩ (by kernel_rfl) rfl
    (fun f fn hf hfn => by
      have hall := noStand f fn hf hfn
      obtain rfl : f = 6 := (Option.some.inj ((show Tryd.prog.funcNamed "loop.example/lib-errortrees/laws.FnExactAsPanics" = some 6 by kernel_rfl).symm.trans hf)).symm
      obtain rfl : fn = Tryd.f6 := (Option.some.inj (Tryd.func6.symm.trans hfn)).symm
      refine ⟨by kernel_rfl, fun j t ht => ?_⟩
      have hm := Array.all_eq_true'.1 hall t (Array.mem_of_getElem? ht)
      have hm2 : Tryd.prog.wantsStandIn t = false := by simpa using hm
      exact hm2)
    (by kernel_rfl)
#print axioms proved
end Go.Proofs.YtccoeajjomfmnaaDoor.fnExactAsPanics
