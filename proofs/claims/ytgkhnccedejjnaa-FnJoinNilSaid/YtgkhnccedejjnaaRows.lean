/-
  No cell of these rows narrows 'for every input' (looked for: loops, veiled, ifaces, maps, wideKeys, modest, calm, conditions, laid).
  DERIVED. THE GIVEN ROWS OF THIS SEAT. 5 by the template 'for every input the law returns true; each argument reads behind the call as it read before'; 0 by the template 'total and deterministic' (their statements: YtgkhnccedejjnaaTotals.lean).
  GIVEN WITH THE SEED: the statements are not yours to turn. If you find one false, say at which input.
  Laid BY PROGRAM, IN A SANDBOX (cutbox-rows.mjs): the forced cells as the released guide's own fill.sh prints them over the translation a653c30b8e4028ca… (all of the seat's roots in one cut). By AI agents, Wed Nov 11 2026. No macro, syntax, notation, axiom, sorry.
-/
import Derived.Test.YtgkhnccedejjnaaChecked
import GoSem.Claim
import GoSem.ClaimJoined
import GoSem.ClaimMapViews
import Derived.JoinedTies
import Derived.KernelRfl
namespace Go.Proofs.Ytgkhnccedejjnaa
/- THE CELL 'sum', in the pinned program and in every row, IS THE sha256 OF THE DUMP (.gsa) THAT YtgkhnccedejjnaaProg.lean LOADS. Nothing in Lean hashes anything: it is a label: what it is worth is what the hold of that sum in a sandbox is worth. -/
noncomputable def Try.pinned : Pinned := { name := "ytgkhnccedejjnaa", sum := "a653c30b8e4028ca95536328ec868defe3329a1096758efe88a1fe74959d2f18", checked := Try.checked }
namespace Rows
def none {H : Type} : Left H := { results := [], args := [] }

/-- 'laws.FnExactNewText': WHATEVER THE INPUT: true; the input reads as it did. -/
def fnExactNewTextSpec : ChangeSpec := { name := "fnExactNewText", fn := fun _ => fun
  | [d] => { results := [.lit (.bool true)], args := [d] }
  | _ => none }
def fnExactNewTextRow : OpenClaim := { program := "ytgkhnccedejjnaa", sum := "a653c30b8e4028ca95536328ec868defe3329a1096758efe88a1fe74959d2f18", func := "loop.example/lib-errortrees/laws.FnExactNewText", spec := "fnExactNewText", unfollowed := true, recurses := true, apart := false }
def FnExactNewTextSaid : Prop := fnExactNewTextRow.holds Try.pinned (OpenSpec.ofChange fnExactNewTextSpec)

/-- ITS FALSE NEIGHBOUR: 'it returns false'. Refute it at one input. -/
def fnExactNewTextWrong : ChangeSpec := { name := "fnExactNewText", fn := fun _ => fun
  | [d] => { results := [.lit (.bool false)], args := [d] }
  | _ => none }
def FnExactNewTextWrongFalsely : Prop := fnExactNewTextRow.holds Try.pinned (OpenSpec.ofChange fnExactNewTextWrong)

/-- 'laws.FnExactNewSame': WHATEVER THE INPUT: true; the input reads as it did. -/
def fnExactNewSameSpec : ChangeSpec := { name := "fnExactNewSame", fn := fun _ => fun
  | [d1, d2] => { results := [.lit (.bool true)], args := [d1, d2] }
  | _ => none }
def fnExactNewSameRow : OpenClaim := { program := "ytgkhnccedejjnaa", sum := "a653c30b8e4028ca95536328ec868defe3329a1096758efe88a1fe74959d2f18", func := "loop.example/lib-errortrees/laws.FnExactNewSame", spec := "fnExactNewSame", unfollowed := true, recurses := true, apart := false }
def FnExactNewSameSaid : Prop := fnExactNewSameRow.holds Try.pinned (OpenSpec.ofChange fnExactNewSameSpec)

/-- ITS FALSE NEIGHBOUR: 'it returns false'. Refute it at one input. -/
def fnExactNewSameWrong : ChangeSpec := { name := "fnExactNewSame", fn := fun _ => fun
  | [d1, d2] => { results := [.lit (.bool false)], args := [d1, d2] }
  | _ => none }
def FnExactNewSameWrongFalsely : Prop := fnExactNewSameRow.holds Try.pinned (OpenSpec.ofChange fnExactNewSameWrong)

/-- 'laws.FnExactJoinTexts': WHATEVER THE INPUT: true; the input reads as it did. -/
def fnExactJoinTextsSpec : ChangeSpec := { name := "fnExactJoinTexts", fn := fun _ => fun
  | [d1, d2] => { results := [.lit (.bool true)], args := [d1, d2] }
  | _ => none }
def fnExactJoinTextsRow : OpenClaim := { program := "ytgkhnccedejjnaa", sum := "a653c30b8e4028ca95536328ec868defe3329a1096758efe88a1fe74959d2f18", func := "loop.example/lib-errortrees/laws.FnExactJoinTexts", spec := "fnExactJoinTexts", unfollowed := true, recurses := true, apart := false }
def FnExactJoinTextsSaid : Prop := fnExactJoinTextsRow.holds Try.pinned (OpenSpec.ofChange fnExactJoinTextsSpec)

/-- ITS FALSE NEIGHBOUR: 'it returns false'. Refute it at one input. -/
def fnExactJoinTextsWrong : ChangeSpec := { name := "fnExactJoinTexts", fn := fun _ => fun
  | [d1, d2] => { results := [.lit (.bool false)], args := [d1, d2] }
  | _ => none }
def FnExactJoinTextsWrongFalsely : Prop := fnExactJoinTextsRow.holds Try.pinned (OpenSpec.ofChange fnExactJoinTextsWrong)

/-- 'laws.FnJoinNil': WHATEVER THE INPUT: true; the input reads as it did. -/
def fnJoinNilSpec : ChangeSpec := { name := "fnJoinNil", fn := fun _ => fun
  | [d] => { results := [.lit (.bool true)], args := [d] }
  | _ => none }
def fnJoinNilRow : OpenClaim := { program := "ytgkhnccedejjnaa", sum := "a653c30b8e4028ca95536328ec868defe3329a1096758efe88a1fe74959d2f18", func := "loop.example/lib-errortrees/laws.FnJoinNil", spec := "fnJoinNil", unfollowed := true, recurses := true, apart := false }
def FnJoinNilSaid : Prop := fnJoinNilRow.holds Try.pinned (OpenSpec.ofChange fnJoinNilSpec)

/-- ITS FALSE NEIGHBOUR: 'it returns false'. Refute it at one input. -/
def fnJoinNilWrong : ChangeSpec := { name := "fnJoinNil", fn := fun _ => fun
  | [d] => { results := [.lit (.bool false)], args := [d] }
  | _ => none }
def FnJoinNilWrongFalsely : Prop := fnJoinNilRow.holds Try.pinned (OpenSpec.ofChange fnJoinNilWrong)

/-- 'laws.FnJoinTwice': WHATEVER THE INPUT: true; the input reads as it did. -/
def fnJoinTwiceSpec : ChangeSpec := { name := "fnJoinTwice", fn := fun _ => fun
  | [d] => { results := [.lit (.bool true)], args := [d] }
  | _ => none }
def fnJoinTwiceRow : OpenClaim := { program := "ytgkhnccedejjnaa", sum := "a653c30b8e4028ca95536328ec868defe3329a1096758efe88a1fe74959d2f18", func := "loop.example/lib-errortrees/laws.FnJoinTwice", spec := "fnJoinTwice", unfollowed := true, recurses := true, apart := false }
def FnJoinTwiceSaid : Prop := fnJoinTwiceRow.holds Try.pinned (OpenSpec.ofChange fnJoinTwiceSpec)

/-- ITS FALSE NEIGHBOUR: 'it returns false'. Refute it at one input. -/
def fnJoinTwiceWrong : ChangeSpec := { name := "fnJoinTwice", fn := fun _ => fun
  | [d] => { results := [.lit (.bool false)], args := [d] }
  | _ => none }
def FnJoinTwiceWrongFalsely : Prop := fnJoinTwiceRow.holds Try.pinned (OpenSpec.ofChange fnJoinTwiceWrong)

/- THE SECOND FORM. 'bulk': how many values and letters a reading holds, each counted each time it is reached (what is shared counts as often as it is met; a slice's spare places count too). A statement '..UptoSaid' is the law's where the arguments, and the package variables that the reading takes, are together of bulk at most 1048576: NARROWER than '..Said'. Prove '..Said' where nothing that the law and all that it calls make is longer than what came in: it says more and counts as full. Else prove '..UptoSaid'. A law counts once. -/
mutual
def uptoBulk {H : Type} : DataW H → Nat
  | .lit (.string bytes) => bytes.length + 1
  | .lit _ => 1
  | .nil => 1
  | .ptr d => uptoBulk d + 1
  | .slice elems spare => uptoBulkAll elems + uptoBulkAll spare + 1
  | .agg parts => uptoBulkAll parts + 1
  | .iface _ d => uptoBulk d + 1
  | .map entries => uptoBulkEntries entries + 1
  | .held _ => 1
def uptoBulkAll {H : Type} : List (DataW H) → Nat
  | [] => 0
  | d :: r => uptoBulk d + uptoBulkAll r
def uptoBulkEntries {H : Type} : List (Lit × DataW H) → Nat
  | [] => 0
  | x :: r => uptoBulkEntry x + uptoBulkEntries r
def uptoBulkEntry {H : Type} : Lit × DataW H → Nat
  | (.string bytes, d) => bytes.length + uptoBulk d + 1
  | (_, d) => uptoBulk d + 1
 end
def uptoSmall : (H : Type) → List (DataW H) → Bool := fun _ ds => decide (uptoBulkAll ds ≤ 1048576)
def OpenSpec.upto (s : _root_.Go.ChangeSpec) : _root_.Go.OpenSpec := { _root_.Go.OpenSpec.ofChange s with cond := some uptoSmall }

/-- 'laws.FnExactNewText', WHERE WHAT IT READS IS OF BULK AT MOST 1048576: true; the input reads as it did. -/
def fnExactNewTextUptoRow : OpenClaim := { program := "ytgkhnccedejjnaa", sum := "a653c30b8e4028ca95536328ec868defe3329a1096758efe88a1fe74959d2f18", func := "loop.example/lib-errortrees/laws.FnExactNewText", spec := "fnExactNewText", unfollowed := true, recurses := true, apart := false, narrowed := true }
def FnExactNewTextUptoSaid : Prop := fnExactNewTextUptoRow.holds Try.pinned (OpenSpec.upto fnExactNewTextSpec)

/-- 'laws.FnExactNewSame', WHERE WHAT IT READS IS OF BULK AT MOST 1048576: true; the input reads as it did. -/
def fnExactNewSameUptoRow : OpenClaim := { program := "ytgkhnccedejjnaa", sum := "a653c30b8e4028ca95536328ec868defe3329a1096758efe88a1fe74959d2f18", func := "loop.example/lib-errortrees/laws.FnExactNewSame", spec := "fnExactNewSame", unfollowed := true, recurses := true, apart := false, narrowed := true }
def FnExactNewSameUptoSaid : Prop := fnExactNewSameUptoRow.holds Try.pinned (OpenSpec.upto fnExactNewSameSpec)

/-- 'laws.FnExactJoinTexts', WHERE WHAT IT READS IS OF BULK AT MOST 1048576: true; the input reads as it did. -/
def fnExactJoinTextsUptoRow : OpenClaim := { program := "ytgkhnccedejjnaa", sum := "a653c30b8e4028ca95536328ec868defe3329a1096758efe88a1fe74959d2f18", func := "loop.example/lib-errortrees/laws.FnExactJoinTexts", spec := "fnExactJoinTexts", unfollowed := true, recurses := true, apart := false, narrowed := true }
def FnExactJoinTextsUptoSaid : Prop := fnExactJoinTextsUptoRow.holds Try.pinned (OpenSpec.upto fnExactJoinTextsSpec)

/-- 'laws.FnJoinNil', WHERE WHAT IT READS IS OF BULK AT MOST 1048576: true; the input reads as it did. -/
def fnJoinNilUptoRow : OpenClaim := { program := "ytgkhnccedejjnaa", sum := "a653c30b8e4028ca95536328ec868defe3329a1096758efe88a1fe74959d2f18", func := "loop.example/lib-errortrees/laws.FnJoinNil", spec := "fnJoinNil", unfollowed := true, recurses := true, apart := false, narrowed := true }
def FnJoinNilUptoSaid : Prop := fnJoinNilUptoRow.holds Try.pinned (OpenSpec.upto fnJoinNilSpec)

/-- 'laws.FnJoinTwice', WHERE WHAT IT READS IS OF BULK AT MOST 1048576: true; the input reads as it did. -/
def fnJoinTwiceUptoRow : OpenClaim := { program := "ytgkhnccedejjnaa", sum := "a653c30b8e4028ca95536328ec868defe3329a1096758efe88a1fe74959d2f18", func := "loop.example/lib-errortrees/laws.FnJoinTwice", spec := "fnJoinTwice", unfollowed := true, recurses := true, apart := false, narrowed := true }
def FnJoinTwiceUptoSaid : Prop := fnJoinTwiceUptoRow.holds Try.pinned (OpenSpec.upto fnJoinTwiceSpec)

end Rows
end Go.Proofs.Ytgkhnccedejjnaa
