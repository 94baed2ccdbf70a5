/-
  DERIVED. GIVEN WITH THE SEED: THE CARDS: each row of YtccoeajjomfmnaaDoorRows.lean that lists a variable, with what it lists TIED to the program's text (the seventh form; the later family's looks); each row that meets fmt, with fmt's text TOLD by the authors' own Lean function (tested against real Go, not proved from fmt's source: count such statements apart). THE CARD IS WHAT COUNTS. Prove the row's statement (the work); the ties are given (YtccoeajjomfmnaaDoorTie.lean); close each card by the builder's one call (the guide's Derived/Test/ToyasCard.lean, 'card_holds'). Laid BY PROGRAM, IN A SANDBOX (cutbox-door.mjs). By AI agents, Wed Nov 11 2026. No macro, syntax, notation, axiom, sorry.
-/
import Derived.Test.YtccoeajjomfmnaaDoorRows
import GoSem.ClaimSeven
namespace Go.Proofs.YtccoeajjomfmnaaDoor
namespace Rows

/-- THE TIED CARD OF 'laws.FnAsRoads'. -/
def fnAsRoadsCard : Claim7 := { stood := { row := fnAsRoadsRow, standIns := [], harness := (true, "0d08591c6b13123c2c8faa27f9e44bc6f2559d8a215c6a9f477f8bac0b9e9a18"), looks := true }, kinds := [], alts := [], laidByText := true, laidKinds := [.handle], laidTests := true, laidLooks := .later }
def FnAsRoadsCardSaid : Prop := Claim7.holds Tryd.pinned (.plain (OpenSpec.ofChange fnAsRoadsSpec)) fnAsRoadsCard

/-- THE TIED CARD OF 'laws.FnExactAsValueTo'. -/
def fnExactAsValueToCard : Claim7 := { stood := { row := fnExactAsValueToRow, standIns := [], harness := (true, "0d08591c6b13123c2c8faa27f9e44bc6f2559d8a215c6a9f477f8bac0b9e9a18"), looks := true }, kinds := [], alts := [], laidByText := true, laidKinds := [.handle], laidTests := true, laidLooks := .later }
def FnExactAsValueToCardSaid : Prop := Claim7.holds Tryd.pinned (.plain (OpenSpec.ofChange fnExactAsValueToSpec)) fnExactAsValueToCard

/-- THE TIED CARD OF 'laws.FnExactAsWrapTo'. -/
def fnExactAsWrapToCard : Claim7 := { stood := { row := fnExactAsWrapToRow, standIns := [], harness := (true, "0d08591c6b13123c2c8faa27f9e44bc6f2559d8a215c6a9f477f8bac0b9e9a18"), looks := true }, kinds := [], alts := [], laidByText := true, laidKinds := [.handle], laidTests := true, laidLooks := .later }
def FnExactAsWrapToCardSaid : Prop := Claim7.holds Tryd.pinned (.plain (OpenSpec.ofChange fnExactAsWrapToSpec)) fnExactAsWrapToCard

/-- THE TIED CARD OF 'laws.FnExactAsPanics'. -/
def fnExactAsPanicsCard : Claim7 := { stood := { row := fnExactAsPanicsRow, standIns := [], harness := (true, "0d08591c6b13123c2c8faa27f9e44bc6f2559d8a215c6a9f477f8bac0b9e9a18"), looks := true }, kinds := [], alts := [], laidByText := true, laidKinds := [.handle], laidTests := true, laidLooks := .later }
def FnExactAsPanicsCardSaid : Prop := Claim7.holds Tryd.pinned (.plain (OpenSpec.ofChange fnExactAsPanicsSpec)) fnExactAsPanicsCard

/-- THE SECOND FORM's CARD OF 'laws.FnAsRoads'. -/
def fnAsRoadsUptoCard : Claim7 := { stood := { row := fnAsRoadsUptoRow, standIns := [], harness := (true, "0d08591c6b13123c2c8faa27f9e44bc6f2559d8a215c6a9f477f8bac0b9e9a18"), looks := true }, kinds := [], alts := [], laidByText := true, laidKinds := [.handle], laidTests := true, laidLooks := .later }
def FnAsRoadsUptoCardSaid : Prop := Claim7.holds Tryd.pinned (.plain (OpenSpec.upto fnAsRoadsSpec)) fnAsRoadsUptoCard

/-- THE SECOND FORM's CARD OF 'laws.FnExactAsValueTo'. -/
def fnExactAsValueToUptoCard : Claim7 := { stood := { row := fnExactAsValueToUptoRow, standIns := [], harness := (true, "0d08591c6b13123c2c8faa27f9e44bc6f2559d8a215c6a9f477f8bac0b9e9a18"), looks := true }, kinds := [], alts := [], laidByText := true, laidKinds := [.handle], laidTests := true, laidLooks := .later }
def FnExactAsValueToUptoCardSaid : Prop := Claim7.holds Tryd.pinned (.plain (OpenSpec.upto fnExactAsValueToSpec)) fnExactAsValueToUptoCard

/-- THE SECOND FORM's CARD OF 'laws.FnExactAsWrapTo'. -/
def fnExactAsWrapToUptoCard : Claim7 := { stood := { row := fnExactAsWrapToUptoRow, standIns := [], harness := (true, "0d08591c6b13123c2c8faa27f9e44bc6f2559d8a215c6a9f477f8bac0b9e9a18"), looks := true }, kinds := [], alts := [], laidByText := true, laidKinds := [.handle], laidTests := true, laidLooks := .later }
def FnExactAsWrapToUptoCardSaid : Prop := Claim7.holds Tryd.pinned (.plain (OpenSpec.upto fnExactAsWrapToSpec)) fnExactAsWrapToUptoCard

/-- THE SECOND FORM's CARD OF 'laws.FnExactAsPanics'. -/
def fnExactAsPanicsUptoCard : Claim7 := { stood := { row := fnExactAsPanicsUptoRow, standIns := [], harness := (true, "0d08591c6b13123c2c8faa27f9e44bc6f2559d8a215c6a9f477f8bac0b9e9a18"), looks := true }, kinds := [], alts := [], laidByText := true, laidKinds := [.handle], laidTests := true, laidLooks := .later }
def FnExactAsPanicsUptoCardSaid : Prop := Claim7.holds Tryd.pinned (.plain (OpenSpec.upto fnExactAsPanicsSpec)) fnExactAsPanicsUptoCard
end Rows
end Go.Proofs.YtccoeajjomfmnaaDoor
