/-
  DERIVED. GIVEN WITH THE SEED: THE CARDS: each row of YtdleegmdpgefmaaDoorRows.lean that lists a variable, with what it lists TIED to the program's text (the seventh form; the later family's looks); each row that meets fmt, with fmt's text TOLD by the authors' own Lean function (tested against real Go, not proved from fmt's source: count such statements apart). THE CARD IS WHAT COUNTS. Prove the row's statement (the work); the ties are given (YtdleegmdpgefmaaDoorTie.lean); close each card by the builder's one call (the guide's Derived/Test/ToyasCard.lean, 'card_holds'). Laid BY PROGRAM, IN A SANDBOX (cutbox-door.mjs). By AI agents, Wed Nov 11 2026. No macro, syntax, notation, axiom, sorry.
-/
import Derived.Test.YtdleegmdpgefmaaDoorRows
import GoSem.ClaimSeven
namespace Go.Proofs.YtdleegmdpgefmaaDoor
namespace Rows

/-- THE TIED CARD OF 'laws.FnJEquals'. -/
def fnJEqualsCard : Claim7 := { stood := { row := fnJEqualsRow, standIns := [], harness := (true, "c86004d16bd99132547d8b1c3486cd787b999571b7a33235c07323c2483c242e"), looks := true }, kinds := [], alts := [], laidByText := true, laidKinds := [.data, .data, .data], laidTests := true, laidLooks := .later }
def FnJEqualsCardSaid : Prop := Claim7.holds Tryd.pinned (.plain (OpenSpec.ofChange fnJEqualsSpec)) fnJEqualsCard

/-- THE TIED CARD OF 'laws.FnJTwins'. -/
def fnJTwinsCard : Claim7 := { stood := { row := fnJTwinsRow, standIns := [], harness := (true, "c86004d16bd99132547d8b1c3486cd787b999571b7a33235c07323c2483c242e"), looks := true }, kinds := [], alts := [], laidByText := true, laidKinds := [.data, .data, .data], laidTests := true, laidLooks := .later }
def FnJTwinsCardSaid : Prop := Claim7.holds Tryd.pinned (.plain (OpenSpec.ofChange fnJTwinsSpec)) fnJTwinsCard

/-- THE TIED CARD OF 'laws.FnJLookupParts'. -/
def fnJLookupPartsCard : Claim7 := { stood := { row := fnJLookupPartsRow, standIns := [], harness := (true, "c86004d16bd99132547d8b1c3486cd787b999571b7a33235c07323c2483c242e"), looks := true }, kinds := [], alts := [], laidByText := true, laidKinds := [.data, .data, .data, .sentinel, .sentinel], laidTests := true, laidLooks := .later }
def FnJLookupPartsCardSaid : Prop := Claim7.holds Tryd.pinned (.plain (OpenSpec.ofChange fnJLookupPartsSpec)) fnJLookupPartsCard

/-- THE SECOND FORM's CARD OF 'laws.FnJEquals'. -/
def fnJEqualsUptoCard : Claim7 := { stood := { row := fnJEqualsUptoRow, standIns := [], harness := (true, "c86004d16bd99132547d8b1c3486cd787b999571b7a33235c07323c2483c242e"), looks := true }, kinds := [], alts := [], laidByText := true, laidKinds := [.data, .data, .data], laidTests := true, laidLooks := .later }
def FnJEqualsUptoCardSaid : Prop := Claim7.holds Tryd.pinned (.plain (OpenSpec.upto fnJEqualsSpec)) fnJEqualsUptoCard

/-- THE SECOND FORM's CARD OF 'laws.FnJTwins'. -/
def fnJTwinsUptoCard : Claim7 := { stood := { row := fnJTwinsUptoRow, standIns := [], harness := (true, "c86004d16bd99132547d8b1c3486cd787b999571b7a33235c07323c2483c242e"), looks := true }, kinds := [], alts := [], laidByText := true, laidKinds := [.data, .data, .data], laidTests := true, laidLooks := .later }
def FnJTwinsUptoCardSaid : Prop := Claim7.holds Tryd.pinned (.plain (OpenSpec.upto fnJTwinsSpec)) fnJTwinsUptoCard

/-- THE SECOND FORM's CARD OF 'laws.FnJLookupParts'. -/
def fnJLookupPartsUptoCard : Claim7 := { stood := { row := fnJLookupPartsUptoRow, standIns := [], harness := (true, "c86004d16bd99132547d8b1c3486cd787b999571b7a33235c07323c2483c242e"), looks := true }, kinds := [], alts := [], laidByText := true, laidKinds := [.data, .data, .data, .sentinel, .sentinel], laidTests := true, laidLooks := .later }
def FnJLookupPartsUptoCardSaid : Prop := Claim7.holds Tryd.pinned (.plain (OpenSpec.upto fnJLookupPartsSpec)) fnJLookupPartsUptoCard
end Rows
end Go.Proofs.YtdleegmdpgefmaaDoor
