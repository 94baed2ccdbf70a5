/-
  No cell of these rows narrows 'for every input' (looked for: loops, veiled, ifaces, maps, wideKeys, modest, calm, conditions, laid).
  DERIVED. THE GIVEN ROWS OF THIS SEAT. 8 by the template 'for every input the law returns true; each argument reads behind the call as it read before'; 0 by the template 'total and deterministic' (their statements: YtlobmpfgimdpgaaTotals.lean).
  GIVEN WITH THE SEED: the statements are not yours to turn. If you find one false, say at which input.
  Laid BY PROGRAM, IN A SANDBOX (cutbox-rows.mjs): the forced cells as the released guide's own fill.sh prints them over the translation db958d8d68a35061… (all of the seat's roots in one cut). By AI agents, Wed Nov 11 2026. No macro, syntax, notation, axiom, sorry.
-/
import Derived.Test.YtlobmpfgimdpgaaChecked
import GoSem.Claim
import GoSem.ClaimJoined
import GoSem.ClaimMapViews
import Derived.JoinedTies
import Derived.KernelRfl
namespace Go.Proofs.Ytlobmpfgimdpgaa
/- THE CELL 'sum', in the pinned program and in every row, IS THE sha256 OF THE DUMP (.gsa) THAT YtlobmpfgimdpgaaProg.lean LOADS. Nothing in Lean hashes anything: it is a label: what it is worth is what the hold of that sum in a sandbox is worth. -/
noncomputable def Try.pinned : Pinned := { name := "ytlobmpfgimdpgaa", sum := "db958d8d68a350617a1dbf6b7b26d9fe95a9e831562f5ce70b7c668fb5a0969b", checked := Try.checked }
namespace Rows
def none {H : Type} : Left H := { results := [], args := [] }

/-- 'laws.FnExactTextOf': WHATEVER THE INPUT: true; the input reads as it did. -/
def fnExactTextOfSpec : ChangeSpec := { name := "fnExactTextOf", fn := fun _ => fun
  | [d] => { results := [.lit (.bool true)], args := [d] }
  | _ => none }
def fnExactTextOfRow : OpenClaim := { program := "ytlobmpfgimdpgaa", sum := "db958d8d68a350617a1dbf6b7b26d9fe95a9e831562f5ce70b7c668fb5a0969b", func := "loop.example/lib-errortrees/laws.FnExactTextOf", spec := "fnExactTextOf", unfollowed := true, recurses := true, apart := false }
def FnExactTextOfSaid : Prop := fnExactTextOfRow.holds Try.pinned (OpenSpec.ofChange fnExactTextOfSpec)

/-- ITS FALSE NEIGHBOUR: 'it returns false'. Refute it at one input. -/
def fnExactTextOfWrong : ChangeSpec := { name := "fnExactTextOf", fn := fun _ => fun
  | [d] => { results := [.lit (.bool false)], args := [d] }
  | _ => none }
def FnExactTextOfWrongFalsely : Prop := fnExactTextOfRow.holds Try.pinned (OpenSpec.ofChange fnExactTextOfWrong)

/-- 'laws.FnTextAbove': WHATEVER THE INPUT: true; the input reads as it did. -/
def fnTextAboveSpec : ChangeSpec := { name := "fnTextAbove", fn := fun _ => fun
  | [d] => { results := [.lit (.bool true)], args := [d] }
  | _ => none }
def fnTextAboveRow : OpenClaim := { program := "ytlobmpfgimdpgaa", sum := "db958d8d68a350617a1dbf6b7b26d9fe95a9e831562f5ce70b7c668fb5a0969b", func := "loop.example/lib-errortrees/laws.FnTextAbove", spec := "fnTextAbove", unfollowed := true, recurses := true, apart := false }
def FnTextAboveSaid : Prop := fnTextAboveRow.holds Try.pinned (OpenSpec.ofChange fnTextAboveSpec)

/-- ITS FALSE NEIGHBOUR: 'it returns false'. Refute it at one input. -/
def fnTextAboveWrong : ChangeSpec := { name := "fnTextAbove", fn := fun _ => fun
  | [d] => { results := [.lit (.bool false)], args := [d] }
  | _ => none }
def FnTextAboveWrongFalsely : Prop := fnTextAboveRow.holds Try.pinned (OpenSpec.ofChange fnTextAboveWrong)

/-- 'laws.FnExactUnwrapRoot': WHATEVER THE INPUT: true; the input reads as it did. -/
def fnExactUnwrapRootSpec : ChangeSpec := { name := "fnExactUnwrapRoot", fn := fun _ => fun
  | [d] => { results := [.lit (.bool true)], args := [d] }
  | _ => none }
def fnExactUnwrapRootRow : OpenClaim := { program := "ytlobmpfgimdpgaa", sum := "db958d8d68a350617a1dbf6b7b26d9fe95a9e831562f5ce70b7c668fb5a0969b", func := "loop.example/lib-errortrees/laws.FnExactUnwrapRoot", spec := "fnExactUnwrapRoot", unfollowed := true, recurses := true, apart := false }
def FnExactUnwrapRootSaid : Prop := fnExactUnwrapRootRow.holds Try.pinned (OpenSpec.ofChange fnExactUnwrapRootSpec)

/-- ITS FALSE NEIGHBOUR: 'it returns false'. Refute it at one input. -/
def fnExactUnwrapRootWrong : ChangeSpec := { name := "fnExactUnwrapRoot", fn := fun _ => fun
  | [d] => { results := [.lit (.bool false)], args := [d] }
  | _ => none }
def FnExactUnwrapRootWrongFalsely : Prop := fnExactUnwrapRootRow.holds Try.pinned (OpenSpec.ofChange fnExactUnwrapRootWrong)

/-- 'laws.FnExactJoinKids': WHATEVER THE INPUT: true; the input reads as it did. -/
def fnExactJoinKidsSpec : ChangeSpec := { name := "fnExactJoinKids", fn := fun _ => fun
  | [d1, d2] => { results := [.lit (.bool true)], args := [d1, d2] }
  | _ => none }
def fnExactJoinKidsRow : OpenClaim := { program := "ytlobmpfgimdpgaa", sum := "db958d8d68a350617a1dbf6b7b26d9fe95a9e831562f5ce70b7c668fb5a0969b", func := "loop.example/lib-errortrees/laws.FnExactJoinKids", spec := "fnExactJoinKids", unfollowed := true, recurses := true, apart := false }
def FnExactJoinKidsSaid : Prop := fnExactJoinKidsRow.holds Try.pinned (OpenSpec.ofChange fnExactJoinKidsSpec)

/-- ITS FALSE NEIGHBOUR: 'it returns false'. Refute it at one input. -/
def fnExactJoinKidsWrong : ChangeSpec := { name := "fnExactJoinKids", fn := fun _ => fun
  | [d1, d2] => { results := [.lit (.bool false)], args := [d1, d2] }
  | _ => none }
def FnExactJoinKidsWrongFalsely : Prop := fnExactJoinKidsRow.holds Try.pinned (OpenSpec.ofChange fnExactJoinKidsWrong)

/-- 'laws.FnJoinKids': WHATEVER THE INPUT: true; the input reads as it did. -/
def fnJoinKidsSpec : ChangeSpec := { name := "fnJoinKids", fn := fun _ => fun
  | [d] => { results := [.lit (.bool true)], args := [d] }
  | _ => none }
def fnJoinKidsRow : OpenClaim := { program := "ytlobmpfgimdpgaa", sum := "db958d8d68a350617a1dbf6b7b26d9fe95a9e831562f5ce70b7c668fb5a0969b", func := "loop.example/lib-errortrees/laws.FnJoinKids", spec := "fnJoinKids", unfollowed := true, recurses := true, apart := false }
def FnJoinKidsSaid : Prop := fnJoinKidsRow.holds Try.pinned (OpenSpec.ofChange fnJoinKidsSpec)

/-- ITS FALSE NEIGHBOUR: 'it returns false'. Refute it at one input. -/
def fnJoinKidsWrong : ChangeSpec := { name := "fnJoinKids", fn := fun _ => fun
  | [d] => { results := [.lit (.bool false)], args := [d] }
  | _ => none }
def FnJoinKidsWrongFalsely : Prop := fnJoinKidsRow.holds Try.pinned (OpenSpec.ofChange fnJoinKidsWrong)

/-- 'laws.FnExactUnwrapChain': WHATEVER THE INPUT: true; the input reads as it did. -/
def fnExactUnwrapChainSpec : ChangeSpec := { name := "fnExactUnwrapChain", fn := fun _ => fun
  | [d] => { results := [.lit (.bool true)], args := [d] }
  | _ => none }
def fnExactUnwrapChainRow : OpenClaim := { program := "ytlobmpfgimdpgaa", sum := "db958d8d68a350617a1dbf6b7b26d9fe95a9e831562f5ce70b7c668fb5a0969b", func := "loop.example/lib-errortrees/laws.FnExactUnwrapChain", spec := "fnExactUnwrapChain", unfollowed := true, recurses := true, apart := false }
def FnExactUnwrapChainSaid : Prop := fnExactUnwrapChainRow.holds Try.pinned (OpenSpec.ofChange fnExactUnwrapChainSpec)

/-- ITS FALSE NEIGHBOUR: 'it returns false'. Refute it at one input. -/
def fnExactUnwrapChainWrong : ChangeSpec := { name := "fnExactUnwrapChain", fn := fun _ => fun
  | [d] => { results := [.lit (.bool false)], args := [d] }
  | _ => none }
def FnExactUnwrapChainWrongFalsely : Prop := fnExactUnwrapChainRow.holds Try.pinned (OpenSpec.ofChange fnExactUnwrapChainWrong)

/-- 'laws.FnChain': WHATEVER THE INPUT: true; the input reads as it did. -/
def fnChainSpec : ChangeSpec := { name := "fnChain", fn := fun _ => fun
  | [d] => { results := [.lit (.bool true)], args := [d] }
  | _ => none }
def fnChainRow : OpenClaim := { program := "ytlobmpfgimdpgaa", sum := "db958d8d68a350617a1dbf6b7b26d9fe95a9e831562f5ce70b7c668fb5a0969b", func := "loop.example/lib-errortrees/laws.FnChain", spec := "fnChain", unfollowed := true, recurses := true, apart := false }
def FnChainSaid : Prop := fnChainRow.holds Try.pinned (OpenSpec.ofChange fnChainSpec)

/-- ITS FALSE NEIGHBOUR: 'it returns false'. Refute it at one input. -/
def fnChainWrong : ChangeSpec := { name := "fnChain", fn := fun _ => fun
  | [d] => { results := [.lit (.bool false)], args := [d] }
  | _ => none }
def FnChainWrongFalsely : Prop := fnChainRow.holds Try.pinned (OpenSpec.ofChange fnChainWrong)

/-- 'laws.FnJoinOne': WHATEVER THE INPUT: true; the input reads as it did. -/
def fnJoinOneSpec : ChangeSpec := { name := "fnJoinOne", fn := fun _ => fun
  | [d] => { results := [.lit (.bool true)], args := [d] }
  | _ => none }
def fnJoinOneRow : OpenClaim := { program := "ytlobmpfgimdpgaa", sum := "db958d8d68a350617a1dbf6b7b26d9fe95a9e831562f5ce70b7c668fb5a0969b", func := "loop.example/lib-errortrees/laws.FnJoinOne", spec := "fnJoinOne", unfollowed := true, recurses := true, apart := false }
def FnJoinOneSaid : Prop := fnJoinOneRow.holds Try.pinned (OpenSpec.ofChange fnJoinOneSpec)

/-- ITS FALSE NEIGHBOUR: 'it returns false'. Refute it at one input. -/
def fnJoinOneWrong : ChangeSpec := { name := "fnJoinOne", fn := fun _ => fun
  | [d] => { results := [.lit (.bool false)], args := [d] }
  | _ => none }
def FnJoinOneWrongFalsely : Prop := fnJoinOneRow.holds Try.pinned (OpenSpec.ofChange fnJoinOneWrong)

/- THE SECOND FORM. 'bulk': how many values and letters a reading holds, each counted each time it is reached (what is shared counts as often as it is met; a slice's spare places count too). A statement '..UptoSaid' is the law's where the arguments, and the package variables that the reading takes, are together of bulk at most 1048576: NARROWER than '..Said'. Prove '..Said' where nothing that the law and all that it calls make is longer than what came in: it says more and counts as full. Else prove '..UptoSaid'. A law counts once. -/
mutual
def uptoBulk {H : Type} : DataW H → Nat
  | .lit (.string bytes) => bytes.length + 1
  | .lit _ => 1
  | .nil => 1
  | .ptr d => uptoBulk d + 1
  | .slice elems spare => uptoBulkAll elems + uptoBulkAll spare + 1
  | .agg parts => uptoBulkAll parts + 1
  | .iface _ d => uptoBulk d + 1
  | .map entries => uptoBulkEntries entries + 1
  | .held _ => 1
def uptoBulkAll {H : Type} : List (DataW H) → Nat
  | [] => 0
  | d :: r => uptoBulk d + uptoBulkAll r
def uptoBulkEntries {H : Type} : List (Lit × DataW H) → Nat
  | [] => 0
  | x :: r => uptoBulkEntry x + uptoBulkEntries r
def uptoBulkEntry {H : Type} : Lit × DataW H → Nat
  | (.string bytes, d) => bytes.length + uptoBulk d + 1
  | (_, d) => uptoBulk d + 1
 end
def uptoSmall : (H : Type) → List (DataW H) → Bool := fun _ ds => decide (uptoBulkAll ds ≤ 1048576)
def OpenSpec.upto (s : _root_.Go.ChangeSpec) : _root_.Go.OpenSpec := { _root_.Go.OpenSpec.ofChange s with cond := some uptoSmall }

/-- 'laws.FnExactTextOf', WHERE WHAT IT READS IS OF BULK AT MOST 1048576: true; the input reads as it did. -/
def fnExactTextOfUptoRow : OpenClaim := { program := "ytlobmpfgimdpgaa", sum := "db958d8d68a350617a1dbf6b7b26d9fe95a9e831562f5ce70b7c668fb5a0969b", func := "loop.example/lib-errortrees/laws.FnExactTextOf", spec := "fnExactTextOf", unfollowed := true, recurses := true, apart := false, narrowed := true }
def FnExactTextOfUptoSaid : Prop := fnExactTextOfUptoRow.holds Try.pinned (OpenSpec.upto fnExactTextOfSpec)

/-- 'laws.FnTextAbove', WHERE WHAT IT READS IS OF BULK AT MOST 1048576: true; the input reads as it did. -/
def fnTextAboveUptoRow : OpenClaim := { program := "ytlobmpfgimdpgaa", sum := "db958d8d68a350617a1dbf6b7b26d9fe95a9e831562f5ce70b7c668fb5a0969b", func := "loop.example/lib-errortrees/laws.FnTextAbove", spec := "fnTextAbove", unfollowed := true, recurses := true, apart := false, narrowed := true }
def FnTextAboveUptoSaid : Prop := fnTextAboveUptoRow.holds Try.pinned (OpenSpec.upto fnTextAboveSpec)

/-- 'laws.FnExactUnwrapRoot', WHERE WHAT IT READS IS OF BULK AT MOST 1048576: true; the input reads as it did. -/
def fnExactUnwrapRootUptoRow : OpenClaim := { program := "ytlobmpfgimdpgaa", sum := "db958d8d68a350617a1dbf6b7b26d9fe95a9e831562f5ce70b7c668fb5a0969b", func := "loop.example/lib-errortrees/laws.FnExactUnwrapRoot", spec := "fnExactUnwrapRoot", unfollowed := true, recurses := true, apart := false, narrowed := true }
def FnExactUnwrapRootUptoSaid : Prop := fnExactUnwrapRootUptoRow.holds Try.pinned (OpenSpec.upto fnExactUnwrapRootSpec)

/-- 'laws.FnExactJoinKids', WHERE WHAT IT READS IS OF BULK AT MOST 1048576: true; the input reads as it did. -/
def fnExactJoinKidsUptoRow : OpenClaim := { program := "ytlobmpfgimdpgaa", sum := "db958d8d68a350617a1dbf6b7b26d9fe95a9e831562f5ce70b7c668fb5a0969b", func := "loop.example/lib-errortrees/laws.FnExactJoinKids", spec := "fnExactJoinKids", unfollowed := true, recurses := true, apart := false, narrowed := true }
def FnExactJoinKidsUptoSaid : Prop := fnExactJoinKidsUptoRow.holds Try.pinned (OpenSpec.upto fnExactJoinKidsSpec)

/-- 'laws.FnJoinKids', WHERE WHAT IT READS IS OF BULK AT MOST 1048576: true; the input reads as it did. -/
def fnJoinKidsUptoRow : OpenClaim := { program := "ytlobmpfgimdpgaa", sum := "db958d8d68a350617a1dbf6b7b26d9fe95a9e831562f5ce70b7c668fb5a0969b", func := "loop.example/lib-errortrees/laws.FnJoinKids", spec := "fnJoinKids", unfollowed := true, recurses := true, apart := false, narrowed := true }
def FnJoinKidsUptoSaid : Prop := fnJoinKidsUptoRow.holds Try.pinned (OpenSpec.upto fnJoinKidsSpec)

/-- 'laws.FnExactUnwrapChain', WHERE WHAT IT READS IS OF BULK AT MOST 1048576: true; the input reads as it did. -/
def fnExactUnwrapChainUptoRow : OpenClaim := { program := "ytlobmpfgimdpgaa", sum := "db958d8d68a350617a1dbf6b7b26d9fe95a9e831562f5ce70b7c668fb5a0969b", func := "loop.example/lib-errortrees/laws.FnExactUnwrapChain", spec := "fnExactUnwrapChain", unfollowed := true, recurses := true, apart := false, narrowed := true }
def FnExactUnwrapChainUptoSaid : Prop := fnExactUnwrapChainUptoRow.holds Try.pinned (OpenSpec.upto fnExactUnwrapChainSpec)

/-- 'laws.FnChain', WHERE WHAT IT READS IS OF BULK AT MOST 1048576: true; the input reads as it did. -/
def fnChainUptoRow : OpenClaim := { program := "ytlobmpfgimdpgaa", sum := "db958d8d68a350617a1dbf6b7b26d9fe95a9e831562f5ce70b7c668fb5a0969b", func := "loop.example/lib-errortrees/laws.FnChain", spec := "fnChain", unfollowed := true, recurses := true, apart := false, narrowed := true }
def FnChainUptoSaid : Prop := fnChainUptoRow.holds Try.pinned (OpenSpec.upto fnChainSpec)

/-- 'laws.FnJoinOne', WHERE WHAT IT READS IS OF BULK AT MOST 1048576: true; the input reads as it did. -/
def fnJoinOneUptoRow : OpenClaim := { program := "ytlobmpfgimdpgaa", sum := "db958d8d68a350617a1dbf6b7b26d9fe95a9e831562f5ce70b7c668fb5a0969b", func := "loop.example/lib-errortrees/laws.FnJoinOne", spec := "fnJoinOne", unfollowed := true, recurses := true, apart := false, narrowed := true }
def FnJoinOneUptoSaid : Prop := fnJoinOneUptoRow.holds Try.pinned (OpenSpec.upto fnJoinOneSpec)

end Rows
end Go.Proofs.Ytlobmpfgimdpgaa
