/-
  NARROWER THAN 'FOR EVERY INPUT', by the rows' own cells (each row's printed sentence says how): FnAsRoads: laid · FnExactAsValueTo: laid · FnExactAsWrapTo: laid · FnExactAsPanics: laid.
  DERIVED. THE GIVEN ROWS OF THIS SEAT. 4 by the template 'for every input the law returns true; each argument reads behind the call as it read before'; 0 by the template 'total and deterministic' (their statements: YtccoeajjomfmnaaDoorTotals.lean).
  GIVEN WITH THE SEED: the statements are not yours to turn. If you find one false, say at which input.
  Laid BY PROGRAM, IN A SANDBOX (cutbox-rows.mjs): the forced cells as the released guide's own fill.sh prints them over the translation 2955449f7059cb3c… (all of the seat's roots in one cut). By AI agents, Wed Nov 11 2026. No macro, syntax, notation, axiom, sorry.
-/
import Derived.Test.YtccoeajjomfmnaaDoorChecked
import GoSem.Claim
import GoSem.ClaimJoined
import GoSem.ClaimMapViews
import Derived.JoinedTies
import Derived.KernelRfl
namespace Go.Proofs.YtccoeajjomfmnaaDoor
/- THE CELL 'sum', in the pinned program and in every row, IS THE sha256 OF THE DUMP (.gsa) THAT YtccoeajjomfmnaaDoorProg.lean LOADS. Nothing in Lean hashes anything: it is a label: what it is worth is what the hold of that sum in a sandbox is worth. -/
noncomputable def Tryd.pinned : Pinned := { name := "ytccoeajjomfmnaadoor", sum := "2955449f7059cb3ceb9491bf6a41bb2cf1791a34b6bf40906df89ee1e7e29c20", checked := Tryd.checked }
namespace Rows
def none {H : Type} : Left H := { results := [], args := [] }

/- WHAT THE LISTED PACKAGE-LEVEL VARIABLES READ AS WHEN THE CALL BEGINS. Each datum BY PROGRAM (the guide's laid-datum.mjs) off the statement by which the dump's own 'gosem.cut.vars' lays the variable. In a bare row this is a premise. The card (YtccoeajjomfmnaaDoorCards.lean) ties it to the program's text. -/
def laid_errors_errorType {H : Type} : DataW H := .iface "internal/reflectlite.rtype" (.agg [.ptr (.lit (.string [101, 114, 114, 111, 114]))])

/-- 'laws.FnAsRoads': WHATEVER THE INPUT: true; the input reads as it did. -/
def fnAsRoadsSpec : ChangeSpec := { name := "fnAsRoads", fn := fun _ => fun
  | [d] => { results := [.lit (.bool true)], args := [d] }
  | _ => none }
def fnAsRoadsRow : OpenClaim := { program := "ytccoeajjomfmnaadoor", sum := "2955449f7059cb3ceb9491bf6a41bb2cf1791a34b6bf40906df89ee1e7e29c20", func := "loop.example/lib-errortrees/laws.FnAsRoads", spec := "fnAsRoads", inPlace := ["internal/reflectlite.ValueOf", "(internal/reflectlite.Value).Type", "(internal/reflectlite.Value).IsNil", "internal/reflectlite.TypeOf", "(internal/reflectlite.Value).Elem", "(internal/reflectlite.Value).Set"], unfollowed := true, recurses := true, named := ["errors.errorType"], apart := false, laid := [("errors.errorType", laid_errors_errorType)] }
def FnAsRoadsSaid : Prop := fnAsRoadsRow.holds Tryd.pinned (OpenSpec.ofChange fnAsRoadsSpec)

/-- ITS FALSE NEIGHBOUR: 'it returns false'. Refute it at one input. -/
def fnAsRoadsWrong : ChangeSpec := { name := "fnAsRoads", fn := fun _ => fun
  | [d] => { results := [.lit (.bool false)], args := [d] }
  | _ => none }
def FnAsRoadsWrongFalsely : Prop := fnAsRoadsRow.holds Tryd.pinned (OpenSpec.ofChange fnAsRoadsWrong)

/-- 'laws.FnExactAsValueTo': WHATEVER THE INPUT: true; the input reads as it did. -/
def fnExactAsValueToSpec : ChangeSpec := { name := "fnExactAsValueTo", fn := fun _ => fun
  | [d1, d2] => { results := [.lit (.bool true)], args := [d1, d2] }
  | _ => none }
def fnExactAsValueToRow : OpenClaim := { program := "ytccoeajjomfmnaadoor", sum := "2955449f7059cb3ceb9491bf6a41bb2cf1791a34b6bf40906df89ee1e7e29c20", func := "loop.example/lib-errortrees/laws.FnExactAsValueTo", spec := "fnExactAsValueTo", inPlace := ["internal/reflectlite.ValueOf", "(internal/reflectlite.Value).Type", "(internal/reflectlite.Value).IsNil", "internal/reflectlite.TypeOf", "(internal/reflectlite.Value).Elem", "(internal/reflectlite.Value).Set"], unfollowed := true, recurses := true, named := ["errors.errorType"], apart := false, laid := [("errors.errorType", laid_errors_errorType)] }
def FnExactAsValueToSaid : Prop := fnExactAsValueToRow.holds Tryd.pinned (OpenSpec.ofChange fnExactAsValueToSpec)

/-- ITS FALSE NEIGHBOUR: 'it returns false'. Refute it at one input. -/
def fnExactAsValueToWrong : ChangeSpec := { name := "fnExactAsValueTo", fn := fun _ => fun
  | [d1, d2] => { results := [.lit (.bool false)], args := [d1, d2] }
  | _ => none }
def FnExactAsValueToWrongFalsely : Prop := fnExactAsValueToRow.holds Tryd.pinned (OpenSpec.ofChange fnExactAsValueToWrong)

/-- 'laws.FnExactAsWrapTo': WHATEVER THE INPUT: true; the input reads as it did. -/
def fnExactAsWrapToSpec : ChangeSpec := { name := "fnExactAsWrapTo", fn := fun _ => fun
  | [d] => { results := [.lit (.bool true)], args := [d] }
  | _ => none }
def fnExactAsWrapToRow : OpenClaim := { program := "ytccoeajjomfmnaadoor", sum := "2955449f7059cb3ceb9491bf6a41bb2cf1791a34b6bf40906df89ee1e7e29c20", func := "loop.example/lib-errortrees/laws.FnExactAsWrapTo", spec := "fnExactAsWrapTo", inPlace := ["internal/reflectlite.ValueOf", "(internal/reflectlite.Value).Type", "(internal/reflectlite.Value).IsNil", "internal/reflectlite.TypeOf", "(internal/reflectlite.Value).Elem", "(internal/reflectlite.Value).Set"], unfollowed := true, recurses := true, named := ["errors.errorType"], apart := false, laid := [("errors.errorType", laid_errors_errorType)] }
def FnExactAsWrapToSaid : Prop := fnExactAsWrapToRow.holds Tryd.pinned (OpenSpec.ofChange fnExactAsWrapToSpec)

/-- ITS FALSE NEIGHBOUR: 'it returns false'. Refute it at one input. -/
def fnExactAsWrapToWrong : ChangeSpec := { name := "fnExactAsWrapTo", fn := fun _ => fun
  | [d] => { results := [.lit (.bool false)], args := [d] }
  | _ => none }
def FnExactAsWrapToWrongFalsely : Prop := fnExactAsWrapToRow.holds Tryd.pinned (OpenSpec.ofChange fnExactAsWrapToWrong)

/-- 'laws.FnExactAsPanics': WHATEVER THE INPUT: true; the input reads as it did. -/
def fnExactAsPanicsSpec : ChangeSpec := { name := "fnExactAsPanics", fn := fun _ => fun
  | [d1, d2] => { results := [.lit (.bool true)], args := [d1, d2] }
  | _ => none }
def fnExactAsPanicsRow : OpenClaim := { program := "ytccoeajjomfmnaadoor", sum := "2955449f7059cb3ceb9491bf6a41bb2cf1791a34b6bf40906df89ee1e7e29c20", func := "loop.example/lib-errortrees/laws.FnExactAsPanics", spec := "fnExactAsPanics", inPlace := ["internal/reflectlite.ValueOf", "(internal/reflectlite.Value).Type", "(internal/reflectlite.Value).IsNil", "internal/reflectlite.TypeOf", "(internal/reflectlite.Value).Elem", "(internal/reflectlite.Value).Set"], unfollowed := true, recurses := true, named := ["errors.errorType"], apart := false, laid := [("errors.errorType", laid_errors_errorType)] }
def FnExactAsPanicsSaid : Prop := fnExactAsPanicsRow.holds Tryd.pinned (OpenSpec.ofChange fnExactAsPanicsSpec)

/-- ITS FALSE NEIGHBOUR: 'it returns false'. Refute it at one input. -/
def fnExactAsPanicsWrong : ChangeSpec := { name := "fnExactAsPanics", fn := fun _ => fun
  | [d1, d2] => { results := [.lit (.bool false)], args := [d1, d2] }
  | _ => none }
def FnExactAsPanicsWrongFalsely : Prop := fnExactAsPanicsRow.holds Tryd.pinned (OpenSpec.ofChange fnExactAsPanicsWrong)

/- THE SECOND FORM. 'bulk': how many values and letters a reading holds, each counted each time it is reached (what is shared counts as often as it is met; a slice's spare places count too). A statement '..UptoSaid' is the law's where the arguments, and the package variables that the reading takes, are together of bulk at most 1048576: NARROWER than '..Said'. Prove '..Said' where nothing that the law and all that it calls make is longer than what came in: it says more and counts as full. Else prove '..UptoSaid'. A law counts once. -/
mutual
def uptoBulk {H : Type} : DataW H → Nat
  | .lit (.string bytes) => bytes.length + 1
  | .lit _ => 1
  | .nil => 1
  | .ptr d => uptoBulk d + 1
  | .slice elems spare => uptoBulkAll elems + uptoBulkAll spare + 1
  | .agg parts => uptoBulkAll parts + 1
  | .iface _ d => uptoBulk d + 1
  | .map entries => uptoBulkEntries entries + 1
  | .held _ => 1
def uptoBulkAll {H : Type} : List (DataW H) → Nat
  | [] => 0
  | d :: r => uptoBulk d + uptoBulkAll r
def uptoBulkEntries {H : Type} : List (Lit × DataW H) → Nat
  | [] => 0
  | x :: r => uptoBulkEntry x + uptoBulkEntries r
def uptoBulkEntry {H : Type} : Lit × DataW H → Nat
  | (.string bytes, d) => bytes.length + uptoBulk d + 1
  | (_, d) => uptoBulk d + 1
 end
def uptoSmall : (H : Type) → List (DataW H) → Bool := fun _ ds => decide (uptoBulkAll ds ≤ 1048576)
def OpenSpec.upto (s : _root_.Go.ChangeSpec) : _root_.Go.OpenSpec := { _root_.Go.OpenSpec.ofChange s with cond := some uptoSmall }

/-- 'laws.FnAsRoads', WHERE WHAT IT READS IS OF BULK AT MOST 1048576: true; the input reads as it did. -/
def fnAsRoadsUptoRow : OpenClaim := { program := "ytccoeajjomfmnaadoor", sum := "2955449f7059cb3ceb9491bf6a41bb2cf1791a34b6bf40906df89ee1e7e29c20", func := "loop.example/lib-errortrees/laws.FnAsRoads", spec := "fnAsRoads", inPlace := ["internal/reflectlite.ValueOf", "(internal/reflectlite.Value).Type", "(internal/reflectlite.Value).IsNil", "internal/reflectlite.TypeOf", "(internal/reflectlite.Value).Elem", "(internal/reflectlite.Value).Set"], unfollowed := true, recurses := true, named := ["errors.errorType"], apart := false, laid := [("errors.errorType", laid_errors_errorType)], narrowed := true }
def FnAsRoadsUptoSaid : Prop := fnAsRoadsUptoRow.holds Tryd.pinned (OpenSpec.upto fnAsRoadsSpec)

/-- 'laws.FnExactAsValueTo', WHERE WHAT IT READS IS OF BULK AT MOST 1048576: true; the input reads as it did. -/
def fnExactAsValueToUptoRow : OpenClaim := { program := "ytccoeajjomfmnaadoor", sum := "2955449f7059cb3ceb9491bf6a41bb2cf1791a34b6bf40906df89ee1e7e29c20", func := "loop.example/lib-errortrees/laws.FnExactAsValueTo", spec := "fnExactAsValueTo", inPlace := ["internal/reflectlite.ValueOf", "(internal/reflectlite.Value).Type", "(internal/reflectlite.Value).IsNil", "internal/reflectlite.TypeOf", "(internal/reflectlite.Value).Elem", "(internal/reflectlite.Value).Set"], unfollowed := true, recurses := true, named := ["errors.errorType"], apart := false, laid := [("errors.errorType", laid_errors_errorType)], narrowed := true }
def FnExactAsValueToUptoSaid : Prop := fnExactAsValueToUptoRow.holds Tryd.pinned (OpenSpec.upto fnExactAsValueToSpec)

/-- 'laws.FnExactAsWrapTo', WHERE WHAT IT READS IS OF BULK AT MOST 1048576: true; the input reads as it did. -/
def fnExactAsWrapToUptoRow : OpenClaim := { program := "ytccoeajjomfmnaadoor", sum := "2955449f7059cb3ceb9491bf6a41bb2cf1791a34b6bf40906df89ee1e7e29c20", func := "loop.example/lib-errortrees/laws.FnExactAsWrapTo", spec := "fnExactAsWrapTo", inPlace := ["internal/reflectlite.ValueOf", "(internal/reflectlite.Value).Type", "(internal/reflectlite.Value).IsNil", "internal/reflectlite.TypeOf", "(internal/reflectlite.Value).Elem", "(internal/reflectlite.Value).Set"], unfollowed := true, recurses := true, named := ["errors.errorType"], apart := false, laid := [("errors.errorType", laid_errors_errorType)], narrowed := true }
def FnExactAsWrapToUptoSaid : Prop := fnExactAsWrapToUptoRow.holds Tryd.pinned (OpenSpec.upto fnExactAsWrapToSpec)

/-- 'laws.FnExactAsPanics', WHERE WHAT IT READS IS OF BULK AT MOST 1048576: true; the input reads as it did. -/
def fnExactAsPanicsUptoRow : OpenClaim := { program := "ytccoeajjomfmnaadoor", sum := "2955449f7059cb3ceb9491bf6a41bb2cf1791a34b6bf40906df89ee1e7e29c20", func := "loop.example/lib-errortrees/laws.FnExactAsPanics", spec := "fnExactAsPanics", inPlace := ["internal/reflectlite.ValueOf", "(internal/reflectlite.Value).Type", "(internal/reflectlite.Value).IsNil", "internal/reflectlite.TypeOf", "(internal/reflectlite.Value).Elem", "(internal/reflectlite.Value).Set"], unfollowed := true, recurses := true, named := ["errors.errorType"], apart := false, laid := [("errors.errorType", laid_errors_errorType)], narrowed := true }
def FnExactAsPanicsUptoSaid : Prop := fnExactAsPanicsUptoRow.holds Tryd.pinned (OpenSpec.upto fnExactAsPanicsSpec)

end Rows
end Go.Proofs.YtccoeajjomfmnaaDoor
