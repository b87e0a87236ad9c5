/-
  No cell of these rows narrows 'for every input' (looked for: loops, veiled, ifaces, maps, wideKeys, modest, calm, conditions, laid).
  DERIVED. THE GIVEN ROWS OF THIS SEAT. 4 by the template 'for every input the law returns true; each argument reads behind the call as it read before'; 0 by the template 'total and deterministic' (their statements: YtabadjidlfpngaaTotals.lean).
  GIVEN WITH THE SEED: the statements are not yours to turn. If you find one false, say at which input.
  Laid BY PROGRAM, IN A SANDBOX (cutbox-rows.mjs): the forced cells as the released guide's own fill.sh prints them over the translation 5113128ef5978bb9… (all of the seat's roots in one cut). By AI agents, Wed Nov 11 2026. No macro, syntax, notation, axiom, sorry.
-/
import Derived.Test.YtabadjidlfpngaaChecked
import GoSem.Claim
import GoSem.ClaimJoined
import GoSem.ClaimMapViews
import Derived.JoinedTies
import Derived.KernelRfl
namespace Go.Proofs.Ytabadjidlfpngaa
/- THE CELL 'sum', in the pinned program and in every row, IS THE sha256 OF THE DUMP (.gsa) THAT YtabadjidlfpngaaProg.lean LOADS. Nothing in Lean hashes anything: it is a label: what it is worth is what the hold of that sum in a sandbox is worth. -/
noncomputable def Try.pinned : Pinned := { name := "ytabadjidlfpngaa", sum := "5113128ef5978bb970d0b9191e5988a60e418fc7fd521c5accddcf9374034f03", checked := Try.checked }
namespace Rows
def none {H : Type} : Left H := { results := [], args := [] }

/-- 'laws.FnJCycle': WHATEVER THE INPUT: true; the input reads as it did. -/
def fnJCycleSpec : ChangeSpec := { name := "fnJCycle", fn := fun _ => fun
  | [d] => { results := [.lit (.bool true)], args := [d] }
  | _ => none }
def fnJCycleRow : OpenClaim := { program := "ytabadjidlfpngaa", sum := "5113128ef5978bb970d0b9191e5988a60e418fc7fd521c5accddcf9374034f03", func := "given.example/pub-querent/laws.FnJCycle", spec := "fnJCycle", apart := false }
def FnJCycleSaid : Prop := fnJCycleRow.holds Try.pinned (OpenSpec.ofChange fnJCycleSpec)

/-- ITS FALSE NEIGHBOUR: 'it returns false'. Refute it at one input. -/
def fnJCycleWrong : ChangeSpec := { name := "fnJCycle", fn := fun _ => fun
  | [d] => { results := [.lit (.bool false)], args := [d] }
  | _ => none }
def FnJCycleWrongFalsely : Prop := fnJCycleRow.holds Try.pinned (OpenSpec.ofChange fnJCycleWrong)

/-- 'laws.FnJNearest': WHATEVER THE INPUT: true; the input reads as it did. -/
def fnJNearestSpec : ChangeSpec := { name := "fnJNearest", fn := fun _ => fun
  | [d1, d2] => { results := [.lit (.bool true)], args := [d1, d2] }
  | _ => none }
def fnJNearestRow : OpenClaim := { program := "ytabadjidlfpngaa", sum := "5113128ef5978bb970d0b9191e5988a60e418fc7fd521c5accddcf9374034f03", func := "given.example/pub-querent/laws.FnJNearest", spec := "fnJNearest", apart := false }
def FnJNearestSaid : Prop := fnJNearestRow.holds Try.pinned (OpenSpec.ofChange fnJNearestSpec)

/-- ITS FALSE NEIGHBOUR: 'it returns false'. Refute it at one input. -/
def fnJNearestWrong : ChangeSpec := { name := "fnJNearest", fn := fun _ => fun
  | [d1, d2] => { results := [.lit (.bool false)], args := [d1, d2] }
  | _ => none }
def FnJNearestWrongFalsely : Prop := fnJNearestRow.holds Try.pinned (OpenSpec.ofChange fnJNearestWrong)

/-- 'laws.FnJTypes': WHATEVER THE INPUT: true; the input reads as it did. -/
def fnJTypesSpec : ChangeSpec := { name := "fnJTypes", fn := fun _ => fun
  | [d] => { results := [.lit (.bool true)], args := [d] }
  | _ => none }
def fnJTypesRow : OpenClaim := { program := "ytabadjidlfpngaa", sum := "5113128ef5978bb970d0b9191e5988a60e418fc7fd521c5accddcf9374034f03", func := "given.example/pub-querent/laws.FnJTypes", spec := "fnJTypes", apart := false }
def FnJTypesSaid : Prop := fnJTypesRow.holds Try.pinned (OpenSpec.ofChange fnJTypesSpec)

/-- ITS FALSE NEIGHBOUR: 'it returns false'. Refute it at one input. -/
def fnJTypesWrong : ChangeSpec := { name := "fnJTypes", fn := fun _ => fun
  | [d] => { results := [.lit (.bool false)], args := [d] }
  | _ => none }
def FnJTypesWrongFalsely : Prop := fnJTypesRow.holds Try.pinned (OpenSpec.ofChange fnJTypesWrong)

/-- 'laws.FnJTypesOrder': WHATEVER THE INPUT: true; the input reads as it did. -/
def fnJTypesOrderSpec : ChangeSpec := { name := "fnJTypesOrder", fn := fun _ => fun
  | [d1, d2] => { results := [.lit (.bool true)], args := [d1, d2] }
  | _ => none }
def fnJTypesOrderRow : OpenClaim := { program := "ytabadjidlfpngaa", sum := "5113128ef5978bb970d0b9191e5988a60e418fc7fd521c5accddcf9374034f03", func := "given.example/pub-querent/laws.FnJTypesOrder", spec := "fnJTypesOrder", apart := false }
def FnJTypesOrderSaid : Prop := fnJTypesOrderRow.holds Try.pinned (OpenSpec.ofChange fnJTypesOrderSpec)

/-- ITS FALSE NEIGHBOUR: 'it returns false'. Refute it at one input. -/
def fnJTypesOrderWrong : ChangeSpec := { name := "fnJTypesOrder", fn := fun _ => fun
  | [d1, d2] => { results := [.lit (.bool false)], args := [d1, d2] }
  | _ => none }
def FnJTypesOrderWrongFalsely : Prop := fnJTypesOrderRow.holds Try.pinned (OpenSpec.ofChange fnJTypesOrderWrong)

/- THE SECOND FORM. 'bulk': how many values and letters a reading holds, each counted each time it is reached (what is shared counts as often as it is met; a slice's spare places count too). A statement '..UptoSaid' is the law's where the arguments, and the package variables that the reading takes, are together of bulk at most 1048576: NARROWER than '..Said'. Prove '..Said' where nothing that the law and all that it calls make is longer than what came in: it says more and counts as full. Else prove '..UptoSaid'. A law counts once. -/
mutual
def uptoBulk {H : Type} : DataW H → Nat
  | .lit (.string bytes) => bytes.length + 1
  | .lit _ => 1
  | .nil => 1
  | .ptr d => uptoBulk d + 1
  | .slice elems spare => uptoBulkAll elems + uptoBulkAll spare + 1
  | .agg parts => uptoBulkAll parts + 1
  | .iface _ d => uptoBulk d + 1
  | .map entries => uptoBulkEntries entries + 1
  | .held _ => 1
def uptoBulkAll {H : Type} : List (DataW H) → Nat
  | [] => 0
  | d :: r => uptoBulk d + uptoBulkAll r
def uptoBulkEntries {H : Type} : List (Lit × DataW H) → Nat
  | [] => 0
  | x :: r => uptoBulkEntry x + uptoBulkEntries r
def uptoBulkEntry {H : Type} : Lit × DataW H → Nat
  | (.string bytes, d) => bytes.length + uptoBulk d + 1
  | (_, d) => uptoBulk d + 1
 end
def uptoSmall : (H : Type) → List (DataW H) → Bool := fun _ ds => decide (uptoBulkAll ds ≤ 1048576)
def OpenSpec.upto (s : _root_.Go.ChangeSpec) : _root_.Go.OpenSpec := { _root_.Go.OpenSpec.ofChange s with cond := some uptoSmall }

/-- 'laws.FnJCycle', WHERE WHAT IT READS IS OF BULK AT MOST 1048576: true; the input reads as it did. -/
def fnJCycleUptoRow : OpenClaim := { program := "ytabadjidlfpngaa", sum := "5113128ef5978bb970d0b9191e5988a60e418fc7fd521c5accddcf9374034f03", func := "given.example/pub-querent/laws.FnJCycle", spec := "fnJCycle", apart := false, narrowed := true }
def FnJCycleUptoSaid : Prop := fnJCycleUptoRow.holds Try.pinned (OpenSpec.upto fnJCycleSpec)

/-- 'laws.FnJNearest', WHERE WHAT IT READS IS OF BULK AT MOST 1048576: true; the input reads as it did. -/
def fnJNearestUptoRow : OpenClaim := { program := "ytabadjidlfpngaa", sum := "5113128ef5978bb970d0b9191e5988a60e418fc7fd521c5accddcf9374034f03", func := "given.example/pub-querent/laws.FnJNearest", spec := "fnJNearest", apart := false, narrowed := true }
def FnJNearestUptoSaid : Prop := fnJNearestUptoRow.holds Try.pinned (OpenSpec.upto fnJNearestSpec)

/-- 'laws.FnJTypes', WHERE WHAT IT READS IS OF BULK AT MOST 1048576: true; the input reads as it did. -/
def fnJTypesUptoRow : OpenClaim := { program := "ytabadjidlfpngaa", sum := "5113128ef5978bb970d0b9191e5988a60e418fc7fd521c5accddcf9374034f03", func := "given.example/pub-querent/laws.FnJTypes", spec := "fnJTypes", apart := false, narrowed := true }
def FnJTypesUptoSaid : Prop := fnJTypesUptoRow.holds Try.pinned (OpenSpec.upto fnJTypesSpec)

/-- 'laws.FnJTypesOrder', WHERE WHAT IT READS IS OF BULK AT MOST 1048576: true; the input reads as it did. -/
def fnJTypesOrderUptoRow : OpenClaim := { program := "ytabadjidlfpngaa", sum := "5113128ef5978bb970d0b9191e5988a60e418fc7fd521c5accddcf9374034f03", func := "given.example/pub-querent/laws.FnJTypesOrder", spec := "fnJTypesOrder", apart := false, narrowed := true }
def FnJTypesOrderUptoSaid : Prop := fnJTypesOrderUptoRow.holds Try.pinned (OpenSpec.upto fnJTypesOrderSpec)

end Rows
end Go.Proofs.Ytabadjidlfpngaa
