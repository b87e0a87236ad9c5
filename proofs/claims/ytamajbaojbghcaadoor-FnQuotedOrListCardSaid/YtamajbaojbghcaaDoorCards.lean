/-
  DERIVED. GIVEN WITH THE SEED: THE CARDS: each row of YtamajbaojbghcaaDoorRows.lean that lists a variable, with what it lists TIED to the program's text (the seventh form; the later family's looks); each row that meets fmt, with fmt's text TOLD by the authors' own Lean function (tested against real Go, not proved from fmt's source: count such statements apart). THE CARD IS WHAT COUNTS. Prove the row's statement (the work); the ties are given (YtamajbaojbghcaaDoorTie.lean); close each card by the builder's one call (the guide's Derived/Test/ToyasCard.lean, 'card_holds'). Laid BY PROGRAM, IN A SANDBOX (cutbox-door.mjs). By AI agents, Wed Nov 11 2026. No macro, syntax, notation, axiom, sorry.
-/
import Derived.Test.YtamajbaojbghcaaDoorRows
import GoSem.ClaimSeven
namespace Go.Proofs.YtamajbaojbghcaaDoor
namespace Rows

/-- THE TIED CARD OF 'laws.FnOrList'. -/
def fnOrListCard : Claim7 := { stood := { row := fnOrListRow, standIns := [], harness := (true, "c73b69fcc44353bfcd07623f5f0b33312a1f6fc4d7482942fa094904cc30a20f"), looks := false }, kinds := [], alts := [], laidByText := true, laidKinds := [.sentinel], laidTests := true, laidLooks := .later }
def FnOrListCardSaid : Prop := Claim7.holds Tryd.pinned (.plain (OpenSpec.ofChange fnOrListSpec)) fnOrListCard

/-- THE TIED CARD OF 'laws.FnQuotedOrList'. -/
def fnQuotedOrListCard : Claim7 := { stood := { row := fnQuotedOrListRow, standIns := [], harness := (true, "c73b69fcc44353bfcd07623f5f0b33312a1f6fc4d7482942fa094904cc30a20f"), looks := false }, kinds := [], alts := [], laidByText := true, laidKinds := [.sentinel], laidTests := true, laidLooks := .later }
def FnQuotedOrListCardSaid : Prop := Claim7.holds Tryd.pinned (.plain (OpenSpec.ofChange fnQuotedOrListSpec)) fnQuotedOrListCard

/-- THE SECOND FORM's CARD OF 'laws.FnOrList'. -/
def fnOrListUptoCard : Claim7 := { stood := { row := fnOrListUptoRow, standIns := [], harness := (true, "c73b69fcc44353bfcd07623f5f0b33312a1f6fc4d7482942fa094904cc30a20f"), looks := false }, kinds := [], alts := [], laidByText := true, laidKinds := [.sentinel], laidTests := true, laidLooks := .later }
def FnOrListUptoCardSaid : Prop := Claim7.holds Tryd.pinned (.plain (OpenSpec.upto fnOrListSpec)) fnOrListUptoCard

/-- THE SECOND FORM's CARD OF 'laws.FnQuotedOrList'. -/
def fnQuotedOrListUptoCard : Claim7 := { stood := { row := fnQuotedOrListUptoRow, standIns := [], harness := (true, "c73b69fcc44353bfcd07623f5f0b33312a1f6fc4d7482942fa094904cc30a20f"), looks := false }, kinds := [], alts := [], laidByText := true, laidKinds := [.sentinel], laidTests := true, laidLooks := .later }
def FnQuotedOrListUptoCardSaid : Prop := Claim7.holds Tryd.pinned (.plain (OpenSpec.upto fnQuotedOrListSpec)) fnQuotedOrListUptoCard
end Rows
end Go.Proofs.YtamajbaojbghcaaDoor
