/-
  No cell of these rows narrows 'for every input' (looked for: loops, veiled, ifaces, maps, wideKeys, modest, calm, conditions, laid).
  DERIVED. THE GIVEN ROWS OF THIS SEAT. 7 by the template 'for every input the law returns true; each argument reads behind the call as it read before'; 0 by the template 'total and deterministic' (their statements: YtnekgmkonhclbaaTotals.lean).
  GIVEN WITH THE SEED: the statements are not yours to turn. If you find one false, say at which input.
  Laid BY PROGRAM, IN A SANDBOX (cutbox-rows.mjs): the forced cells as the released guide's own fill.sh prints them over the translation f506d7d852e3992a… (all of the seat's roots in one cut). By AI agents, Wed Nov 11 2026. No macro, syntax, notation, axiom, sorry.
-/
import Derived.Test.YtnekgmkonhclbaaChecked
import GoSem.Claim
import GoSem.ClaimJoined
import GoSem.ClaimMapViews
import Derived.JoinedTies
import Derived.KernelRfl
namespace Go.Proofs.Ytnekgmkonhclbaa
/- THE CELL 'sum', in the pinned program and in every row, IS THE sha256 OF THE DUMP (.gsa) THAT YtnekgmkonhclbaaProg.lean LOADS. Nothing in Lean hashes anything: it is a label: what it is worth is what the hold of that sum in a sandbox is worth. -/
noncomputable def Try.pinned : Pinned := { name := "ytnekgmkonhclbaa", sum := "f506d7d852e3992a5fda7f4037593e3ce0005bf0fa3835a2aaf8728971e1ab96", checked := Try.checked }
namespace Rows
def none {H : Type} : Left H := { results := [], args := [] }

/-- 'laws.FnAsBeside': WHATEVER THE INPUT: true; the input reads as it did. -/
def fnAsBesideSpec : ChangeSpec := { name := "fnAsBeside", fn := fun _ => fun
  | [d] => { results := [.lit (.bool true)], args := [d] }
  | _ => none }
def fnAsBesideRow : OpenClaim := { program := "ytnekgmkonhclbaa", sum := "f506d7d852e3992a5fda7f4037593e3ce0005bf0fa3835a2aaf8728971e1ab96", func := "loop.example/lib-errortrees/laws.FnAsBeside", spec := "fnAsBeside", unfollowed := true, recurses := true, apart := false }
def FnAsBesideSaid : Prop := fnAsBesideRow.holds Try.pinned (OpenSpec.ofChange fnAsBesideSpec)

/-- ITS FALSE NEIGHBOUR: 'it returns false'. Refute it at one input. -/
def fnAsBesideWrong : ChangeSpec := { name := "fnAsBeside", fn := fun _ => fun
  | [d] => { results := [.lit (.bool false)], args := [d] }
  | _ => none }
def FnAsBesideWrongFalsely : Prop := fnAsBesideRow.holds Try.pinned (OpenSpec.ofChange fnAsBesideWrong)

/-- 'laws.FnExactAsValue': WHATEVER THE INPUT: true; the input reads as it did. -/
def fnExactAsValueSpec : ChangeSpec := { name := "fnExactAsValue", fn := fun _ => fun
  | [d] => { results := [.lit (.bool true)], args := [d] }
  | _ => none }
def fnExactAsValueRow : OpenClaim := { program := "ytnekgmkonhclbaa", sum := "f506d7d852e3992a5fda7f4037593e3ce0005bf0fa3835a2aaf8728971e1ab96", func := "loop.example/lib-errortrees/laws.FnExactAsValue", spec := "fnExactAsValue", unfollowed := true, recurses := true, apart := false }
def FnExactAsValueSaid : Prop := fnExactAsValueRow.holds Try.pinned (OpenSpec.ofChange fnExactAsValueSpec)

/-- ITS FALSE NEIGHBOUR: 'it returns false'. Refute it at one input. -/
def fnExactAsValueWrong : ChangeSpec := { name := "fnExactAsValue", fn := fun _ => fun
  | [d] => { results := [.lit (.bool false)], args := [d] }
  | _ => none }
def FnExactAsValueWrongFalsely : Prop := fnExactAsValueRow.holds Try.pinned (OpenSpec.ofChange fnExactAsValueWrong)

/-- 'laws.FnExactAsMany': WHATEVER THE INPUT: true; the input reads as it did. -/
def fnExactAsManySpec : ChangeSpec := { name := "fnExactAsMany", fn := fun _ => fun
  | [d] => { results := [.lit (.bool true)], args := [d] }
  | _ => none }
def fnExactAsManyRow : OpenClaim := { program := "ytnekgmkonhclbaa", sum := "f506d7d852e3992a5fda7f4037593e3ce0005bf0fa3835a2aaf8728971e1ab96", func := "loop.example/lib-errortrees/laws.FnExactAsMany", spec := "fnExactAsMany", unfollowed := true, recurses := true, apart := false }
def FnExactAsManySaid : Prop := fnExactAsManyRow.holds Try.pinned (OpenSpec.ofChange fnExactAsManySpec)

/-- ITS FALSE NEIGHBOUR: 'it returns false'. Refute it at one input. -/
def fnExactAsManyWrong : ChangeSpec := { name := "fnExactAsMany", fn := fun _ => fun
  | [d] => { results := [.lit (.bool false)], args := [d] }
  | _ => none }
def FnExactAsManyWrongFalsely : Prop := fnExactAsManyRow.holds Try.pinned (OpenSpec.ofChange fnExactAsManyWrong)

/-- 'laws.FnExactAsWrap': WHATEVER THE INPUT: true; the input reads as it did. -/
def fnExactAsWrapSpec : ChangeSpec := { name := "fnExactAsWrap", fn := fun _ => fun
  | [d] => { results := [.lit (.bool true)], args := [d] }
  | _ => none }
def fnExactAsWrapRow : OpenClaim := { program := "ytnekgmkonhclbaa", sum := "f506d7d852e3992a5fda7f4037593e3ce0005bf0fa3835a2aaf8728971e1ab96", func := "loop.example/lib-errortrees/laws.FnExactAsWrap", spec := "fnExactAsWrap", unfollowed := true, recurses := true, apart := false }
def FnExactAsWrapSaid : Prop := fnExactAsWrapRow.holds Try.pinned (OpenSpec.ofChange fnExactAsWrapSpec)

/-- ITS FALSE NEIGHBOUR: 'it returns false'. Refute it at one input. -/
def fnExactAsWrapWrong : ChangeSpec := { name := "fnExactAsWrap", fn := fun _ => fun
  | [d] => { results := [.lit (.bool false)], args := [d] }
  | _ => none }
def FnExactAsWrapWrongFalsely : Prop := fnExactAsWrapRow.holds Try.pinned (OpenSpec.ofChange fnExactAsWrapWrong)

/-- 'laws.FnAsAbove': WHATEVER THE INPUT: true; the input reads as it did. -/
def fnAsAboveSpec : ChangeSpec := { name := "fnAsAbove", fn := fun _ => fun
  | [d] => { results := [.lit (.bool true)], args := [d] }
  | _ => none }
def fnAsAboveRow : OpenClaim := { program := "ytnekgmkonhclbaa", sum := "f506d7d852e3992a5fda7f4037593e3ce0005bf0fa3835a2aaf8728971e1ab96", func := "loop.example/lib-errortrees/laws.FnAsAbove", spec := "fnAsAbove", unfollowed := true, recurses := true, apart := false }
def FnAsAboveSaid : Prop := fnAsAboveRow.holds Try.pinned (OpenSpec.ofChange fnAsAboveSpec)

/-- ITS FALSE NEIGHBOUR: 'it returns false'. Refute it at one input. -/
def fnAsAboveWrong : ChangeSpec := { name := "fnAsAbove", fn := fun _ => fun
  | [d] => { results := [.lit (.bool false)], args := [d] }
  | _ => none }
def FnAsAboveWrongFalsely : Prop := fnAsAboveRow.holds Try.pinned (OpenSpec.ofChange fnAsAboveWrong)

/-- 'laws.FnAsIs': WHATEVER THE INPUT: true; the input reads as it did. -/
def fnAsIsSpec : ChangeSpec := { name := "fnAsIs", fn := fun _ => fun
  | [d] => { results := [.lit (.bool true)], args := [d] }
  | _ => none }
def fnAsIsRow : OpenClaim := { program := "ytnekgmkonhclbaa", sum := "f506d7d852e3992a5fda7f4037593e3ce0005bf0fa3835a2aaf8728971e1ab96", func := "loop.example/lib-errortrees/laws.FnAsIs", spec := "fnAsIs", inPlace := ["internal/reflectlite.TypeOf"], unfollowed := true, recurses := true, apart := false }
def FnAsIsSaid : Prop := fnAsIsRow.holds Try.pinned (OpenSpec.ofChange fnAsIsSpec)

/-- ITS FALSE NEIGHBOUR: 'it returns false'. Refute it at one input. -/
def fnAsIsWrong : ChangeSpec := { name := "fnAsIs", fn := fun _ => fun
  | [d] => { results := [.lit (.bool false)], args := [d] }
  | _ => none }
def FnAsIsWrongFalsely : Prop := fnAsIsRow.holds Try.pinned (OpenSpec.ofChange fnAsIsWrong)

/-- 'laws.FnAsWrapFirst': WHATEVER THE INPUT: true; the input reads as it did. -/
def fnAsWrapFirstSpec : ChangeSpec := { name := "fnAsWrapFirst", fn := fun _ => fun
  | [d] => { results := [.lit (.bool true)], args := [d] }
  | _ => none }
def fnAsWrapFirstRow : OpenClaim := { program := "ytnekgmkonhclbaa", sum := "f506d7d852e3992a5fda7f4037593e3ce0005bf0fa3835a2aaf8728971e1ab96", func := "loop.example/lib-errortrees/laws.FnAsWrapFirst", spec := "fnAsWrapFirst", inPlace := ["internal/reflectlite.TypeOf"], unfollowed := true, recurses := true, apart := false }
def FnAsWrapFirstSaid : Prop := fnAsWrapFirstRow.holds Try.pinned (OpenSpec.ofChange fnAsWrapFirstSpec)

/-- ITS FALSE NEIGHBOUR: 'it returns false'. Refute it at one input. -/
def fnAsWrapFirstWrong : ChangeSpec := { name := "fnAsWrapFirst", fn := fun _ => fun
  | [d] => { results := [.lit (.bool false)], args := [d] }
  | _ => none }
def FnAsWrapFirstWrongFalsely : Prop := fnAsWrapFirstRow.holds Try.pinned (OpenSpec.ofChange fnAsWrapFirstWrong)

/- THE SECOND FORM. 'bulk': how many values and letters a reading holds, each counted each time it is reached (what is shared counts as often as it is met; a slice's spare places count too). A statement '..UptoSaid' is the law's where the arguments, and the package variables that the reading takes, are together of bulk at most 1048576: NARROWER than '..Said'. Prove '..Said' where nothing that the law and all that it calls make is longer than what came in: it says more and counts as full. Else prove '..UptoSaid'. A law counts once. -/
mutual
def uptoBulk {H : Type} : DataW H → Nat
  | .lit (.string bytes) => bytes.length + 1
  | .lit _ => 1
  | .nil => 1
  | .ptr d => uptoBulk d + 1
  | .slice elems spare => uptoBulkAll elems + uptoBulkAll spare + 1
  | .agg parts => uptoBulkAll parts + 1
  | .iface _ d => uptoBulk d + 1
  | .map entries => uptoBulkEntries entries + 1
  | .held _ => 1
def uptoBulkAll {H : Type} : List (DataW H) → Nat
  | [] => 0
  | d :: r => uptoBulk d + uptoBulkAll r
def uptoBulkEntries {H : Type} : List (Lit × DataW H) → Nat
  | [] => 0
  | x :: r => uptoBulkEntry x + uptoBulkEntries r
def uptoBulkEntry {H : Type} : Lit × DataW H → Nat
  | (.string bytes, d) => bytes.length + uptoBulk d + 1
  | (_, d) => uptoBulk d + 1
 end
def uptoSmall : (H : Type) → List (DataW H) → Bool := fun _ ds => decide (uptoBulkAll ds ≤ 1048576)
def OpenSpec.upto (s : _root_.Go.ChangeSpec) : _root_.Go.OpenSpec := { _root_.Go.OpenSpec.ofChange s with cond := some uptoSmall }

/-- 'laws.FnAsBeside', WHERE WHAT IT READS IS OF BULK AT MOST 1048576: true; the input reads as it did. -/
def fnAsBesideUptoRow : OpenClaim := { program := "ytnekgmkonhclbaa", sum := "f506d7d852e3992a5fda7f4037593e3ce0005bf0fa3835a2aaf8728971e1ab96", func := "loop.example/lib-errortrees/laws.FnAsBeside", spec := "fnAsBeside", unfollowed := true, recurses := true, apart := false, narrowed := true }
def FnAsBesideUptoSaid : Prop := fnAsBesideUptoRow.holds Try.pinned (OpenSpec.upto fnAsBesideSpec)

/-- 'laws.FnExactAsValue', WHERE WHAT IT READS IS OF BULK AT MOST 1048576: true; the input reads as it did. -/
def fnExactAsValueUptoRow : OpenClaim := { program := "ytnekgmkonhclbaa", sum := "f506d7d852e3992a5fda7f4037593e3ce0005bf0fa3835a2aaf8728971e1ab96", func := "loop.example/lib-errortrees/laws.FnExactAsValue", spec := "fnExactAsValue", unfollowed := true, recurses := true, apart := false, narrowed := true }
def FnExactAsValueUptoSaid : Prop := fnExactAsValueUptoRow.holds Try.pinned (OpenSpec.upto fnExactAsValueSpec)

/-- 'laws.FnExactAsMany', WHERE WHAT IT READS IS OF BULK AT MOST 1048576: true; the input reads as it did. -/
def fnExactAsManyUptoRow : OpenClaim := { program := "ytnekgmkonhclbaa", sum := "f506d7d852e3992a5fda7f4037593e3ce0005bf0fa3835a2aaf8728971e1ab96", func := "loop.example/lib-errortrees/laws.FnExactAsMany", spec := "fnExactAsMany", unfollowed := true, recurses := true, apart := false, narrowed := true }
def FnExactAsManyUptoSaid : Prop := fnExactAsManyUptoRow.holds Try.pinned (OpenSpec.upto fnExactAsManySpec)

/-- 'laws.FnExactAsWrap', WHERE WHAT IT READS IS OF BULK AT MOST 1048576: true; the input reads as it did. -/
def fnExactAsWrapUptoRow : OpenClaim := { program := "ytnekgmkonhclbaa", sum := "f506d7d852e3992a5fda7f4037593e3ce0005bf0fa3835a2aaf8728971e1ab96", func := "loop.example/lib-errortrees/laws.FnExactAsWrap", spec := "fnExactAsWrap", unfollowed := true, recurses := true, apart := false, narrowed := true }
def FnExactAsWrapUptoSaid : Prop := fnExactAsWrapUptoRow.holds Try.pinned (OpenSpec.upto fnExactAsWrapSpec)

/-- 'laws.FnAsAbove', WHERE WHAT IT READS IS OF BULK AT MOST 1048576: true; the input reads as it did. -/
def fnAsAboveUptoRow : OpenClaim := { program := "ytnekgmkonhclbaa", sum := "f506d7d852e3992a5fda7f4037593e3ce0005bf0fa3835a2aaf8728971e1ab96", func := "loop.example/lib-errortrees/laws.FnAsAbove", spec := "fnAsAbove", unfollowed := true, recurses := true, apart := false, narrowed := true }
def FnAsAboveUptoSaid : Prop := fnAsAboveUptoRow.holds Try.pinned (OpenSpec.upto fnAsAboveSpec)

/-- 'laws.FnAsIs', WHERE WHAT IT READS IS OF BULK AT MOST 1048576: true; the input reads as it did. -/
def fnAsIsUptoRow : OpenClaim := { program := "ytnekgmkonhclbaa", sum := "f506d7d852e3992a5fda7f4037593e3ce0005bf0fa3835a2aaf8728971e1ab96", func := "loop.example/lib-errortrees/laws.FnAsIs", spec := "fnAsIs", inPlace := ["internal/reflectlite.TypeOf"], unfollowed := true, recurses := true, apart := false, narrowed := true }
def FnAsIsUptoSaid : Prop := fnAsIsUptoRow.holds Try.pinned (OpenSpec.upto fnAsIsSpec)

/-- 'laws.FnAsWrapFirst', WHERE WHAT IT READS IS OF BULK AT MOST 1048576: true; the input reads as it did. -/
def fnAsWrapFirstUptoRow : OpenClaim := { program := "ytnekgmkonhclbaa", sum := "f506d7d852e3992a5fda7f4037593e3ce0005bf0fa3835a2aaf8728971e1ab96", func := "loop.example/lib-errortrees/laws.FnAsWrapFirst", spec := "fnAsWrapFirst", inPlace := ["internal/reflectlite.TypeOf"], unfollowed := true, recurses := true, apart := false, narrowed := true }
def FnAsWrapFirstUptoSaid : Prop := fnAsWrapFirstUptoRow.holds Try.pinned (OpenSpec.upto fnAsWrapFirstSpec)

end Rows
end Go.Proofs.Ytnekgmkonhclbaa
