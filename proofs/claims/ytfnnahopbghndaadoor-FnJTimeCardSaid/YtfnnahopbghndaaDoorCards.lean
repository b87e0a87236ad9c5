/-
  DERIVED. GIVEN WITH THE SEED: THE CARDS: each row of YtfnnahopbghndaaDoorRows.lean that lists a variable, with what it lists TIED to the program's text (the seventh form; the later family's looks); each row that meets fmt, with fmt's text TOLD by the authors' own Lean function (tested against real Go, not proved from fmt's source: count such statements apart). THE CARD IS WHAT COUNTS. Prove the row's statement (the work); the ties are given (YtfnnahopbghndaaDoorTie.lean); close each card by the builder's one call (the guide's Derived/Test/ToyasCard.lean, 'card_holds'). Laid BY PROGRAM, IN A SANDBOX (cutbox-door.mjs). By AI agents, Wed Nov 11 2026. No macro, syntax, notation, axiom, sorry.
-/
import Derived.Test.YtfnnahopbghndaaDoorRows
import GoSem.ClaimSeven
namespace Go.Proofs.YtfnnahopbghndaaDoor
namespace Rows

/-- THE TIED CARD OF 'laws.FnJIPv4'. -/
def fnJIPv4Card : Claim7 := { stood := { row := fnJIPv4Row, standIns := [], harness := (true, "73217e8e1089bf8a36b073830c79a319f645dd1c01ec1ae186a7a40c41dda40c"), looks := true }, kinds := [], alts := [], laidByText := true, laidKinds := [.data, .data, .data, .sentinel, .sentinel], laidTests := true, laidLooks := .later }
def FnJIPv4CardSaid : Prop := Claim7.holds Tryd.pinned (.plain (OpenSpec.ofChange fnJIPv4Spec)) fnJIPv4Card

/-- THE TIED CARD OF 'laws.FnJIPv4Parts'. -/
def fnJIPv4PartsCard : Claim7 := { stood := { row := fnJIPv4PartsRow, standIns := [], harness := (true, "73217e8e1089bf8a36b073830c79a319f645dd1c01ec1ae186a7a40c41dda40c"), looks := true }, kinds := [], alts := [], laidByText := true, laidKinds := [.data, .data, .data, .sentinel, .sentinel], laidTests := true, laidLooks := .later }
def FnJIPv4PartsCardSaid : Prop := Claim7.holds Tryd.pinned (.plain (OpenSpec.ofChange fnJIPv4PartsSpec)) fnJIPv4PartsCard

/-- THE TIED CARD OF 'laws.FnJTime'. -/
def fnJTimeCard : Claim7 := { stood := { row := fnJTimeRow, standIns := [], harness := (true, "73217e8e1089bf8a36b073830c79a319f645dd1c01ec1ae186a7a40c41dda40c"), looks := true }, kinds := [], alts := [], laidByText := true, laidKinds := [.data, .data, .data, .sentinel, .sentinel], laidTests := true, laidLooks := .later }
def FnJTimeCardSaid : Prop := Claim7.holds Tryd.pinned (.plain (OpenSpec.ofChange fnJTimeSpec)) fnJTimeCard

/-- THE TIED CARD OF 'laws.FnJTimeLeap'. -/
def fnJTimeLeapCard : Claim7 := { stood := { row := fnJTimeLeapRow, standIns := [], harness := (true, "73217e8e1089bf8a36b073830c79a319f645dd1c01ec1ae186a7a40c41dda40c"), looks := true }, kinds := [], alts := [], laidByText := true, laidKinds := [.data, .data, .data, .sentinel, .sentinel], laidTests := true, laidLooks := .later }
def FnJTimeLeapCardSaid : Prop := Claim7.holds Tryd.pinned (.plain (OpenSpec.ofChange fnJTimeLeapSpec)) fnJTimeLeapCard

/-- THE TIED CARD OF 'laws.FnJTimeSame'. -/
def fnJTimeSameCard : Claim7 := { stood := { row := fnJTimeSameRow, standIns := [], harness := (true, "73217e8e1089bf8a36b073830c79a319f645dd1c01ec1ae186a7a40c41dda40c"), looks := true }, kinds := [], alts := [], laidByText := true, laidKinds := [.data, .data, .data, .sentinel, .sentinel], laidTests := true, laidLooks := .later }
def FnJTimeSameCardSaid : Prop := Claim7.holds Tryd.pinned (.plain (OpenSpec.ofChange fnJTimeSameSpec)) fnJTimeSameCard

/-- THE TIED CARD OF 'laws.FnJEmail'. -/
def fnJEmailCard : Claim7 := { stood := { row := fnJEmailRow, standIns := [], harness := (true, "73217e8e1089bf8a36b073830c79a319f645dd1c01ec1ae186a7a40c41dda40c"), looks := true }, kinds := [], alts := [], laidByText := true, laidKinds := [.data, .data, .data, .sentinel, .sentinel], laidTests := true, laidLooks := .later }
def FnJEmailCardSaid : Prop := Claim7.holds Tryd.pinned (.plain (OpenSpec.ofChange fnJEmailSpec)) fnJEmailCard

/-- THE TIED CARD OF 'laws.FnJEmailParts'. -/
def fnJEmailPartsCard : Claim7 := { stood := { row := fnJEmailPartsRow, standIns := [], harness := (true, "73217e8e1089bf8a36b073830c79a319f645dd1c01ec1ae186a7a40c41dda40c"), looks := true }, kinds := [], alts := [], laidByText := true, laidKinds := [.data, .data, .data, .sentinel, .sentinel], laidTests := true, laidLooks := .later }
def FnJEmailPartsCardSaid : Prop := Claim7.holds Tryd.pinned (.plain (OpenSpec.ofChange fnJEmailPartsSpec)) fnJEmailPartsCard

/-- THE SECOND FORM's CARD OF 'laws.FnJIPv4'. -/
def fnJIPv4UptoCard : Claim7 := { stood := { row := fnJIPv4UptoRow, standIns := [], harness := (true, "73217e8e1089bf8a36b073830c79a319f645dd1c01ec1ae186a7a40c41dda40c"), looks := true }, kinds := [], alts := [], laidByText := true, laidKinds := [.data, .data, .data, .sentinel, .sentinel], laidTests := true, laidLooks := .later }
def FnJIPv4UptoCardSaid : Prop := Claim7.holds Tryd.pinned (.plain (OpenSpec.upto fnJIPv4Spec)) fnJIPv4UptoCard

/-- THE SECOND FORM's CARD OF 'laws.FnJIPv4Parts'. -/
def fnJIPv4PartsUptoCard : Claim7 := { stood := { row := fnJIPv4PartsUptoRow, standIns := [], harness := (true, "73217e8e1089bf8a36b073830c79a319f645dd1c01ec1ae186a7a40c41dda40c"), looks := true }, kinds := [], alts := [], laidByText := true, laidKinds := [.data, .data, .data, .sentinel, .sentinel], laidTests := true, laidLooks := .later }
def FnJIPv4PartsUptoCardSaid : Prop := Claim7.holds Tryd.pinned (.plain (OpenSpec.upto fnJIPv4PartsSpec)) fnJIPv4PartsUptoCard

/-- THE SECOND FORM's CARD OF 'laws.FnJTime'. -/
def fnJTimeUptoCard : Claim7 := { stood := { row := fnJTimeUptoRow, standIns := [], harness := (true, "73217e8e1089bf8a36b073830c79a319f645dd1c01ec1ae186a7a40c41dda40c"), looks := true }, kinds := [], alts := [], laidByText := true, laidKinds := [.data, .data, .data, .sentinel, .sentinel], laidTests := true, laidLooks := .later }
def FnJTimeUptoCardSaid : Prop := Claim7.holds Tryd.pinned (.plain (OpenSpec.upto fnJTimeSpec)) fnJTimeUptoCard

/-- THE SECOND FORM's CARD OF 'laws.FnJTimeLeap'. -/
def fnJTimeLeapUptoCard : Claim7 := { stood := { row := fnJTimeLeapUptoRow, standIns := [], harness := (true, "73217e8e1089bf8a36b073830c79a319f645dd1c01ec1ae186a7a40c41dda40c"), looks := true }, kinds := [], alts := [], laidByText := true, laidKinds := [.data, .data, .data, .sentinel, .sentinel], laidTests := true, laidLooks := .later }
def FnJTimeLeapUptoCardSaid : Prop := Claim7.holds Tryd.pinned (.plain (OpenSpec.upto fnJTimeLeapSpec)) fnJTimeLeapUptoCard

/-- THE SECOND FORM's CARD OF 'laws.FnJTimeSame'. -/
def fnJTimeSameUptoCard : Claim7 := { stood := { row := fnJTimeSameUptoRow, standIns := [], harness := (true, "73217e8e1089bf8a36b073830c79a319f645dd1c01ec1ae186a7a40c41dda40c"), looks := true }, kinds := [], alts := [], laidByText := true, laidKinds := [.data, .data, .data, .sentinel, .sentinel], laidTests := true, laidLooks := .later }
def FnJTimeSameUptoCardSaid : Prop := Claim7.holds Tryd.pinned (.plain (OpenSpec.upto fnJTimeSameSpec)) fnJTimeSameUptoCard

/-- THE SECOND FORM's CARD OF 'laws.FnJEmail'. -/
def fnJEmailUptoCard : Claim7 := { stood := { row := fnJEmailUptoRow, standIns := [], harness := (true, "73217e8e1089bf8a36b073830c79a319f645dd1c01ec1ae186a7a40c41dda40c"), looks := true }, kinds := [], alts := [], laidByText := true, laidKinds := [.data, .data, .data, .sentinel, .sentinel], laidTests := true, laidLooks := .later }
def FnJEmailUptoCardSaid : Prop := Claim7.holds Tryd.pinned (.plain (OpenSpec.upto fnJEmailSpec)) fnJEmailUptoCard

/-- THE SECOND FORM's CARD OF 'laws.FnJEmailParts'. -/
def fnJEmailPartsUptoCard : Claim7 := { stood := { row := fnJEmailPartsUptoRow, standIns := [], harness := (true, "73217e8e1089bf8a36b073830c79a319f645dd1c01ec1ae186a7a40c41dda40c"), looks := true }, kinds := [], alts := [], laidByText := true, laidKinds := [.data, .data, .data, .sentinel, .sentinel], laidTests := true, laidLooks := .later }
def FnJEmailPartsUptoCardSaid : Prop := Claim7.holds Tryd.pinned (.plain (OpenSpec.upto fnJEmailPartsSpec)) fnJEmailPartsUptoCard
end Rows
end Go.Proofs.YtfnnahopbghndaaDoor
