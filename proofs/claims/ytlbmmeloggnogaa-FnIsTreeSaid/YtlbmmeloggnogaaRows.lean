/-
  No cell of these rows narrows 'for every input' (looked for: loops, veiled, ifaces, maps, wideKeys, modest, calm, conditions, laid).
  DERIVED. THE GIVEN ROWS OF THIS SEAT. 8 by the template 'for every input the law returns true; each argument reads behind the call as it read before'; 0 by the template 'total and deterministic' (their statements: YtlbmmeloggnogaaTotals.lean).
  GIVEN WITH THE SEED: the statements are not yours to turn. If you find one false, say at which input.
  Laid BY PROGRAM, IN A SANDBOX (cutbox-rows.mjs): the forced cells as the released guide's own fill.sh prints them over the translation eafd2c6692b870b0… (all of the seat's roots in one cut). By AI agents, Wed Nov 11 2026. No macro, syntax, notation, axiom, sorry.
-/
import Derived.Test.YtlbmmeloggnogaaChecked
import GoSem.Claim
import GoSem.ClaimJoined
import GoSem.ClaimMapViews
import Derived.JoinedTies
import Derived.KernelRfl
namespace Go.Proofs.Ytlbmmeloggnogaa
/- THE CELL 'sum', in the pinned program and in every row, IS THE sha256 OF THE DUMP (.gsa) THAT YtlbmmeloggnogaaProg.lean LOADS. Nothing in Lean hashes anything: it is a label: what it is worth is what the hold of that sum in a sandbox is worth. -/
noncomputable def Try.pinned : Pinned := { name := "ytlbmmeloggnogaa", sum := "eafd2c6692b870b0286558d03e1e1700f96ea308893591c5736d7d8867b23ddb", checked := Try.checked }
namespace Rows
def none {H : Type} : Left H := { results := [], args := [] }

/-- 'laws.FnExactIsNil': WHATEVER THE INPUT: true; the input reads as it did. -/
def fnExactIsNilSpec : ChangeSpec := { name := "fnExactIsNil", fn := fun _ => fun
  | [d] => { results := [.lit (.bool true)], args := [d] }
  | _ => none }
def fnExactIsNilRow : OpenClaim := { program := "ytlbmmeloggnogaa", sum := "eafd2c6692b870b0286558d03e1e1700f96ea308893591c5736d7d8867b23ddb", func := "loop.example/lib-errortrees/laws.FnExactIsNil", spec := "fnExactIsNil", inPlace := ["internal/reflectlite.TypeOf"], unfollowed := true, recurses := true, apart := false }
def FnExactIsNilSaid : Prop := fnExactIsNilRow.holds Try.pinned (OpenSpec.ofChange fnExactIsNilSpec)

/-- ITS FALSE NEIGHBOUR: 'it returns false'. Refute it at one input. -/
def fnExactIsNilWrong : ChangeSpec := { name := "fnExactIsNil", fn := fun _ => fun
  | [d] => { results := [.lit (.bool false)], args := [d] }
  | _ => none }
def FnExactIsNilWrongFalsely : Prop := fnExactIsNilRow.holds Try.pinned (OpenSpec.ofChange fnExactIsNilWrong)

/-- 'laws.FnExactIsValue': WHATEVER THE INPUT: true; the input reads as it did. -/
def fnExactIsValueSpec : ChangeSpec := { name := "fnExactIsValue", fn := fun _ => fun
  | [d1, d2] => { results := [.lit (.bool true)], args := [d1, d2] }
  | _ => none }
def fnExactIsValueRow : OpenClaim := { program := "ytlbmmeloggnogaa", sum := "eafd2c6692b870b0286558d03e1e1700f96ea308893591c5736d7d8867b23ddb", func := "loop.example/lib-errortrees/laws.FnExactIsValue", spec := "fnExactIsValue", inPlace := ["internal/reflectlite.TypeOf"], unfollowed := true, recurses := true, apart := false }
def FnExactIsValueSaid : Prop := fnExactIsValueRow.holds Try.pinned (OpenSpec.ofChange fnExactIsValueSpec)

/-- ITS FALSE NEIGHBOUR: 'it returns false'. Refute it at one input. -/
def fnExactIsValueWrong : ChangeSpec := { name := "fnExactIsValue", fn := fun _ => fun
  | [d1, d2] => { results := [.lit (.bool false)], args := [d1, d2] }
  | _ => none }
def FnExactIsValueWrongFalsely : Prop := fnExactIsValueRow.holds Try.pinned (OpenSpec.ofChange fnExactIsValueWrong)

/-- 'laws.FnIsBeside': WHATEVER THE INPUT: true; the input reads as it did. -/
def fnIsBesideSpec : ChangeSpec := { name := "fnIsBeside", fn := fun _ => fun
  | [d] => { results := [.lit (.bool true)], args := [d] }
  | _ => none }
def fnIsBesideRow : OpenClaim := { program := "ytlbmmeloggnogaa", sum := "eafd2c6692b870b0286558d03e1e1700f96ea308893591c5736d7d8867b23ddb", func := "loop.example/lib-errortrees/laws.FnIsBeside", spec := "fnIsBeside", inPlace := ["internal/reflectlite.TypeOf"], unfollowed := true, recurses := true, apart := false }
def FnIsBesideSaid : Prop := fnIsBesideRow.holds Try.pinned (OpenSpec.ofChange fnIsBesideSpec)

/-- ITS FALSE NEIGHBOUR: 'it returns false'. Refute it at one input. -/
def fnIsBesideWrong : ChangeSpec := { name := "fnIsBeside", fn := fun _ => fun
  | [d] => { results := [.lit (.bool false)], args := [d] }
  | _ => none }
def FnIsBesideWrongFalsely : Prop := fnIsBesideRow.holds Try.pinned (OpenSpec.ofChange fnIsBesideWrong)

/-- 'laws.FnExactIsJoin': WHATEVER THE INPUT: true; the input reads as it did. -/
def fnExactIsJoinSpec : ChangeSpec := { name := "fnExactIsJoin", fn := fun _ => fun
  | [d1, d2] => { results := [.lit (.bool true)], args := [d1, d2] }
  | _ => none }
def fnExactIsJoinRow : OpenClaim := { program := "ytlbmmeloggnogaa", sum := "eafd2c6692b870b0286558d03e1e1700f96ea308893591c5736d7d8867b23ddb", func := "loop.example/lib-errortrees/laws.FnExactIsJoin", spec := "fnExactIsJoin", inPlace := ["internal/reflectlite.TypeOf"], unfollowed := true, recurses := true, apart := false }
def FnExactIsJoinSaid : Prop := fnExactIsJoinRow.holds Try.pinned (OpenSpec.ofChange fnExactIsJoinSpec)

/-- ITS FALSE NEIGHBOUR: 'it returns false'. Refute it at one input. -/
def fnExactIsJoinWrong : ChangeSpec := { name := "fnExactIsJoin", fn := fun _ => fun
  | [d1, d2] => { results := [.lit (.bool false)], args := [d1, d2] }
  | _ => none }
def FnExactIsJoinWrongFalsely : Prop := fnExactIsJoinRow.holds Try.pinned (OpenSpec.ofChange fnExactIsJoinWrong)

/-- 'laws.FnExactIsNode': WHATEVER THE INPUT: true; the input reads as it did. -/
def fnExactIsNodeSpec : ChangeSpec := { name := "fnExactIsNode", fn := fun _ => fun
  | [d1, d2] => { results := [.lit (.bool true)], args := [d1, d2] }
  | _ => none }
def fnExactIsNodeRow : OpenClaim := { program := "ytlbmmeloggnogaa", sum := "eafd2c6692b870b0286558d03e1e1700f96ea308893591c5736d7d8867b23ddb", func := "loop.example/lib-errortrees/laws.FnExactIsNode", spec := "fnExactIsNode", inPlace := ["internal/reflectlite.TypeOf"], unfollowed := true, recurses := true, apart := false }
def FnExactIsNodeSaid : Prop := fnExactIsNodeRow.holds Try.pinned (OpenSpec.ofChange fnExactIsNodeSpec)

/-- ITS FALSE NEIGHBOUR: 'it returns false'. Refute it at one input. -/
def fnExactIsNodeWrong : ChangeSpec := { name := "fnExactIsNode", fn := fun _ => fun
  | [d1, d2] => { results := [.lit (.bool false)], args := [d1, d2] }
  | _ => none }
def FnExactIsNodeWrongFalsely : Prop := fnExactIsNodeRow.holds Try.pinned (OpenSpec.ofChange fnExactIsNodeWrong)

/-- 'laws.FnIsTree': WHATEVER THE INPUT: true; the input reads as it did. -/
def fnIsTreeSpec : ChangeSpec := { name := "fnIsTree", fn := fun _ => fun
  | [d] => { results := [.lit (.bool true)], args := [d] }
  | _ => none }
def fnIsTreeRow : OpenClaim := { program := "ytlbmmeloggnogaa", sum := "eafd2c6692b870b0286558d03e1e1700f96ea308893591c5736d7d8867b23ddb", func := "loop.example/lib-errortrees/laws.FnIsTree", spec := "fnIsTree", inPlace := ["internal/reflectlite.TypeOf"], unfollowed := true, recurses := true, apart := false }
def FnIsTreeSaid : Prop := fnIsTreeRow.holds Try.pinned (OpenSpec.ofChange fnIsTreeSpec)

/-- ITS FALSE NEIGHBOUR: 'it returns false'. Refute it at one input. -/
def fnIsTreeWrong : ChangeSpec := { name := "fnIsTree", fn := fun _ => fun
  | [d] => { results := [.lit (.bool false)], args := [d] }
  | _ => none }
def FnIsTreeWrongFalsely : Prop := fnIsTreeRow.holds Try.pinned (OpenSpec.ofChange fnIsTreeWrong)

/-- 'laws.FnIsAbove': WHATEVER THE INPUT: true; the input reads as it did. -/
def fnIsAboveSpec : ChangeSpec := { name := "fnIsAbove", fn := fun _ => fun
  | [d] => { results := [.lit (.bool true)], args := [d] }
  | _ => none }
def fnIsAboveRow : OpenClaim := { program := "ytlbmmeloggnogaa", sum := "eafd2c6692b870b0286558d03e1e1700f96ea308893591c5736d7d8867b23ddb", func := "loop.example/lib-errortrees/laws.FnIsAbove", spec := "fnIsAbove", inPlace := ["internal/reflectlite.TypeOf"], unfollowed := true, recurses := true, apart := false }
def FnIsAboveSaid : Prop := fnIsAboveRow.holds Try.pinned (OpenSpec.ofChange fnIsAboveSpec)

/-- ITS FALSE NEIGHBOUR: 'it returns false'. Refute it at one input. -/
def fnIsAboveWrong : ChangeSpec := { name := "fnIsAbove", fn := fun _ => fun
  | [d] => { results := [.lit (.bool false)], args := [d] }
  | _ => none }
def FnIsAboveWrongFalsely : Prop := fnIsAboveRow.holds Try.pinned (OpenSpec.ofChange fnIsAboveWrong)

/-- 'laws.FnUnwrapAbove': WHATEVER THE INPUT: true; the input reads as it did. -/
def fnUnwrapAboveSpec : ChangeSpec := { name := "fnUnwrapAbove", fn := fun _ => fun
  | [d] => { results := [.lit (.bool true)], args := [d] }
  | _ => none }
def fnUnwrapAboveRow : OpenClaim := { program := "ytlbmmeloggnogaa", sum := "eafd2c6692b870b0286558d03e1e1700f96ea308893591c5736d7d8867b23ddb", func := "loop.example/lib-errortrees/laws.FnUnwrapAbove", spec := "fnUnwrapAbove", inPlace := ["internal/reflectlite.TypeOf"], unfollowed := true, recurses := true, apart := false }
def FnUnwrapAboveSaid : Prop := fnUnwrapAboveRow.holds Try.pinned (OpenSpec.ofChange fnUnwrapAboveSpec)

/-- ITS FALSE NEIGHBOUR: 'it returns false'. Refute it at one input. -/
def fnUnwrapAboveWrong : ChangeSpec := { name := "fnUnwrapAbove", fn := fun _ => fun
  | [d] => { results := [.lit (.bool false)], args := [d] }
  | _ => none }
def FnUnwrapAboveWrongFalsely : Prop := fnUnwrapAboveRow.holds Try.pinned (OpenSpec.ofChange fnUnwrapAboveWrong)

/- THE SECOND FORM. 'bulk': how many values and letters a reading holds, each counted each time it is reached (what is shared counts as often as it is met; a slice's spare places count too). A statement '..UptoSaid' is the law's where the arguments, and the package variables that the reading takes, are together of bulk at most 1048576: NARROWER than '..Said'. Prove '..Said' where nothing that the law and all that it calls make is longer than what came in: it says more and counts as full. Else prove '..UptoSaid'. A law counts once. -/
mutual
def uptoBulk {H : Type} : DataW H → Nat
  | .lit (.string bytes) => bytes.length + 1
  | .lit _ => 1
  | .nil => 1
  | .ptr d => uptoBulk d + 1
  | .slice elems spare => uptoBulkAll elems + uptoBulkAll spare + 1
  | .agg parts => uptoBulkAll parts + 1
  | .iface _ d => uptoBulk d + 1
  | .map entries => uptoBulkEntries entries + 1
  | .held _ => 1
def uptoBulkAll {H : Type} : List (DataW H) → Nat
  | [] => 0
  | d :: r => uptoBulk d + uptoBulkAll r
def uptoBulkEntries {H : Type} : List (Lit × DataW H) → Nat
  | [] => 0
  | x :: r => uptoBulkEntry x + uptoBulkEntries r
def uptoBulkEntry {H : Type} : Lit × DataW H → Nat
  | (.string bytes, d) => bytes.length + uptoBulk d + 1
  | (_, d) => uptoBulk d + 1
 end
def uptoSmall : (H : Type) → List (DataW H) → Bool := fun _ ds => decide (uptoBulkAll ds ≤ 1048576)
def OpenSpec.upto (s : _root_.Go.ChangeSpec) : _root_.Go.OpenSpec := { _root_.Go.OpenSpec.ofChange s with cond := some uptoSmall }

/-- 'laws.FnExactIsNil', WHERE WHAT IT READS IS OF BULK AT MOST 1048576: true; the input reads as it did. -/
def fnExactIsNilUptoRow : OpenClaim := { program := "ytlbmmeloggnogaa", sum := "eafd2c6692b870b0286558d03e1e1700f96ea308893591c5736d7d8867b23ddb", func := "loop.example/lib-errortrees/laws.FnExactIsNil", spec := "fnExactIsNil", inPlace := ["internal/reflectlite.TypeOf"], unfollowed := true, recurses := true, apart := false, narrowed := true }
def FnExactIsNilUptoSaid : Prop := fnExactIsNilUptoRow.holds Try.pinned (OpenSpec.upto fnExactIsNilSpec)

/-- 'laws.FnExactIsValue', WHERE WHAT IT READS IS OF BULK AT MOST 1048576: true; the input reads as it did. -/
def fnExactIsValueUptoRow : OpenClaim := { program := "ytlbmmeloggnogaa", sum := "eafd2c6692b870b0286558d03e1e1700f96ea308893591c5736d7d8867b23ddb", func := "loop.example/lib-errortrees/laws.FnExactIsValue", spec := "fnExactIsValue", inPlace := ["internal/reflectlite.TypeOf"], unfollowed := true, recurses := true, apart := false, narrowed := true }
def FnExactIsValueUptoSaid : Prop := fnExactIsValueUptoRow.holds Try.pinned (OpenSpec.upto fnExactIsValueSpec)

/-- 'laws.FnIsBeside', WHERE WHAT IT READS IS OF BULK AT MOST 1048576: true; the input reads as it did. -/
def fnIsBesideUptoRow : OpenClaim := { program := "ytlbmmeloggnogaa", sum := "eafd2c6692b870b0286558d03e1e1700f96ea308893591c5736d7d8867b23ddb", func := "loop.example/lib-errortrees/laws.FnIsBeside", spec := "fnIsBeside", inPlace := ["internal/reflectlite.TypeOf"], unfollowed := true, recurses := true, apart := false, narrowed := true }
def FnIsBesideUptoSaid : Prop := fnIsBesideUptoRow.holds Try.pinned (OpenSpec.upto fnIsBesideSpec)

/-- 'laws.FnExactIsJoin', WHERE WHAT IT READS IS OF BULK AT MOST 1048576: true; the input reads as it did. -/
def fnExactIsJoinUptoRow : OpenClaim := { program := "ytlbmmeloggnogaa", sum := "eafd2c6692b870b0286558d03e1e1700f96ea308893591c5736d7d8867b23ddb", func := "loop.example/lib-errortrees/laws.FnExactIsJoin", spec := "fnExactIsJoin", inPlace := ["internal/reflectlite.TypeOf"], unfollowed := true, recurses := true, apart := false, narrowed := true }
def FnExactIsJoinUptoSaid : Prop := fnExactIsJoinUptoRow.holds Try.pinned (OpenSpec.upto fnExactIsJoinSpec)

/-- 'laws.FnExactIsNode', WHERE WHAT IT READS IS OF BULK AT MOST 1048576: true; the input reads as it did. -/
def fnExactIsNodeUptoRow : OpenClaim := { program := "ytlbmmeloggnogaa", sum := "eafd2c6692b870b0286558d03e1e1700f96ea308893591c5736d7d8867b23ddb", func := "loop.example/lib-errortrees/laws.FnExactIsNode", spec := "fnExactIsNode", inPlace := ["internal/reflectlite.TypeOf"], unfollowed := true, recurses := true, apart := false, narrowed := true }
def FnExactIsNodeUptoSaid : Prop := fnExactIsNodeUptoRow.holds Try.pinned (OpenSpec.upto fnExactIsNodeSpec)

/-- 'laws.FnIsTree', WHERE WHAT IT READS IS OF BULK AT MOST 1048576: true; the input reads as it did. -/
def fnIsTreeUptoRow : OpenClaim := { program := "ytlbmmeloggnogaa", sum := "eafd2c6692b870b0286558d03e1e1700f96ea308893591c5736d7d8867b23ddb", func := "loop.example/lib-errortrees/laws.FnIsTree", spec := "fnIsTree", inPlace := ["internal/reflectlite.TypeOf"], unfollowed := true, recurses := true, apart := false, narrowed := true }
def FnIsTreeUptoSaid : Prop := fnIsTreeUptoRow.holds Try.pinned (OpenSpec.upto fnIsTreeSpec)

/-- 'laws.FnIsAbove', WHERE WHAT IT READS IS OF BULK AT MOST 1048576: true; the input reads as it did. -/
def fnIsAboveUptoRow : OpenClaim := { program := "ytlbmmeloggnogaa", sum := "eafd2c6692b870b0286558d03e1e1700f96ea308893591c5736d7d8867b23ddb", func := "loop.example/lib-errortrees/laws.FnIsAbove", spec := "fnIsAbove", inPlace := ["internal/reflectlite.TypeOf"], unfollowed := true, recurses := true, apart := false, narrowed := true }
def FnIsAboveUptoSaid : Prop := fnIsAboveUptoRow.holds Try.pinned (OpenSpec.upto fnIsAboveSpec)

/-- 'laws.FnUnwrapAbove', WHERE WHAT IT READS IS OF BULK AT MOST 1048576: true; the input reads as it did. -/
def fnUnwrapAboveUptoRow : OpenClaim := { program := "ytlbmmeloggnogaa", sum := "eafd2c6692b870b0286558d03e1e1700f96ea308893591c5736d7d8867b23ddb", func := "loop.example/lib-errortrees/laws.FnUnwrapAbove", spec := "fnUnwrapAbove", inPlace := ["internal/reflectlite.TypeOf"], unfollowed := true, recurses := true, apart := false, narrowed := true }
def FnUnwrapAboveUptoSaid : Prop := fnUnwrapAboveUptoRow.holds Try.pinned (OpenSpec.upto fnUnwrapAboveSpec)

end Rows
end Go.Proofs.Ytlbmmeloggnogaa
