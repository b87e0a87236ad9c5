/-
  No cell of these rows narrows 'for every input' (looked for: loops, veiled, ifaces, maps, wideKeys, modest, calm, conditions, laid).
  DERIVED. THE GIVEN ROWS OF THIS SEAT. 4 by the template 'for every input the law returns true; each argument reads behind the call as it read before'; 0 by the template 'total and deterministic' (their statements: YtfnnahopbghndaaTotals.lean).
  GIVEN WITH THE SEED: the statements are not yours to turn. If you find one false, say at which input.
  Laid BY PROGRAM, IN A SANDBOX (cutbox-rows.mjs): the forced cells as the released guide's own fill.sh prints them over the translation 0acc414ced323240… (all of the seat's roots in one cut). By AI agents, Wed Nov 11 2026. No macro, syntax, notation, axiom, sorry.
-/
import Derived.Test.YtfnnahopbghndaaChecked
import GoSem.Claim
import GoSem.ClaimJoined
import GoSem.ClaimMapViews
import Derived.JoinedTies
import Derived.KernelRfl
namespace Go.Proofs.Ytfnnahopbghndaa
/- THE CELL 'sum', in the pinned program and in every row, IS THE sha256 OF THE DUMP (.gsa) THAT YtfnnahopbghndaaProg.lean LOADS. Nothing in Lean hashes anything: it is a label: what it is worth is what the hold of that sum in a sandbox is worth. -/
noncomputable def Try.pinned : Pinned := { name := "ytfnnahopbghndaa", sum := "0acc414ced323240b5be0f5e93ebcee299579c9e020c4a6b456fbf49ddf1a784", checked := Try.checked }
namespace Rows
def none {H : Type} : Left H := { results := [], args := [] }

/-- 'laws.FnJDurationParts': WHATEVER THE INPUT: true; the input reads as it did. -/
def fnJDurationPartsSpec : ChangeSpec := { name := "fnJDurationParts", fn := fun _ => fun
  | [d1, d2] => { results := [.lit (.bool true)], args := [d1, d2] }
  | _ => none }
def fnJDurationPartsRow : OpenClaim := { program := "ytfnnahopbghndaa", sum := "0acc414ced323240b5be0f5e93ebcee299579c9e020c4a6b456fbf49ddf1a784", func := "given.example/pub-querent/laws.FnJDurationParts", spec := "fnJDurationParts", inPlace := ["internal/bytealg.IndexByteString"], apart := false }
def FnJDurationPartsSaid : Prop := fnJDurationPartsRow.holds Try.pinned (OpenSpec.ofChange fnJDurationPartsSpec)

/-- ITS FALSE NEIGHBOUR: 'it returns false'. Refute it at one input. -/
def fnJDurationPartsWrong : ChangeSpec := { name := "fnJDurationParts", fn := fun _ => fun
  | [d1, d2] => { results := [.lit (.bool false)], args := [d1, d2] }
  | _ => none }
def FnJDurationPartsWrongFalsely : Prop := fnJDurationPartsRow.holds Try.pinned (OpenSpec.ofChange fnJDurationPartsWrong)

/-- 'laws.FnJIPv6': WHATEVER THE INPUT: true; the input reads as it did. -/
def fnJIPv6Spec : ChangeSpec := { name := "fnJIPv6", fn := fun _ => fun
  | [d] => { results := [.lit (.bool true)], args := [d] }
  | _ => none }
def fnJIPv6Row : OpenClaim := { program := "ytfnnahopbghndaa", sum := "0acc414ced323240b5be0f5e93ebcee299579c9e020c4a6b456fbf49ddf1a784", func := "given.example/pub-querent/laws.FnJIPv6", spec := "fnJIPv6", inPlace := ["internal/bytealg.IndexByteString"], apart := false }
def FnJIPv6Said : Prop := fnJIPv6Row.holds Try.pinned (OpenSpec.ofChange fnJIPv6Spec)

/-- ITS FALSE NEIGHBOUR: 'it returns false'. Refute it at one input. -/
def fnJIPv6Wrong : ChangeSpec := { name := "fnJIPv6", fn := fun _ => fun
  | [d] => { results := [.lit (.bool false)], args := [d] }
  | _ => none }
def FnJIPv6WrongFalsely : Prop := fnJIPv6Row.holds Try.pinned (OpenSpec.ofChange fnJIPv6Wrong)

/-- 'laws.FnJIPv6Zeros': WHATEVER THE INPUT: true; the input reads as it did. -/
def fnJIPv6ZerosSpec : ChangeSpec := { name := "fnJIPv6Zeros", fn := fun _ => fun
  | [d1, d2, d3] => { results := [.lit (.bool true)], args := [d1, d2, d3] }
  | _ => none }
def fnJIPv6ZerosRow : OpenClaim := { program := "ytfnnahopbghndaa", sum := "0acc414ced323240b5be0f5e93ebcee299579c9e020c4a6b456fbf49ddf1a784", func := "given.example/pub-querent/laws.FnJIPv6Zeros", spec := "fnJIPv6Zeros", inPlace := ["internal/bytealg.IndexByteString"], apart := false }
def FnJIPv6ZerosSaid : Prop := fnJIPv6ZerosRow.holds Try.pinned (OpenSpec.ofChange fnJIPv6ZerosSpec)

/-- ITS FALSE NEIGHBOUR: 'it returns false'. Refute it at one input. -/
def fnJIPv6ZerosWrong : ChangeSpec := { name := "fnJIPv6Zeros", fn := fun _ => fun
  | [d1, d2, d3] => { results := [.lit (.bool false)], args := [d1, d2, d3] }
  | _ => none }
def FnJIPv6ZerosWrongFalsely : Prop := fnJIPv6ZerosRow.holds Try.pinned (OpenSpec.ofChange fnJIPv6ZerosWrong)

/-- 'laws.FnJCase': WHATEVER THE INPUT: true; the input reads as it did. -/
def fnJCaseSpec : ChangeSpec := { name := "fnJCase", fn := fun _ => fun
  | [d] => { results := [.lit (.bool true)], args := [d] }
  | _ => none }
def fnJCaseRow : OpenClaim := { program := "ytfnnahopbghndaa", sum := "0acc414ced323240b5be0f5e93ebcee299579c9e020c4a6b456fbf49ddf1a784", func := "given.example/pub-querent/laws.FnJCase", spec := "fnJCase", inPlace := ["internal/bytealg.IndexByteString"], apart := false }
def FnJCaseSaid : Prop := fnJCaseRow.holds Try.pinned (OpenSpec.ofChange fnJCaseSpec)

/-- ITS FALSE NEIGHBOUR: 'it returns false'. Refute it at one input. -/
def fnJCaseWrong : ChangeSpec := { name := "fnJCase", fn := fun _ => fun
  | [d] => { results := [.lit (.bool false)], args := [d] }
  | _ => none }
def FnJCaseWrongFalsely : Prop := fnJCaseRow.holds Try.pinned (OpenSpec.ofChange fnJCaseWrong)

/- THE SECOND FORM. 'bulk': how many values and letters a reading holds, each counted each time it is reached (what is shared counts as often as it is met; a slice's spare places count too). A statement '..UptoSaid' is the law's where the arguments, and the package variables that the reading takes, are together of bulk at most 1048576: NARROWER than '..Said'. Prove '..Said' where nothing that the law and all that it calls make is longer than what came in: it says more and counts as full. Else prove '..UptoSaid'. A law counts once. -/
mutual
def uptoBulk {H : Type} : DataW H → Nat
  | .lit (.string bytes) => bytes.length + 1
  | .lit _ => 1
  | .nil => 1
  | .ptr d => uptoBulk d + 1
  | .slice elems spare => uptoBulkAll elems + uptoBulkAll spare + 1
  | .agg parts => uptoBulkAll parts + 1
  | .iface _ d => uptoBulk d + 1
  | .map entries => uptoBulkEntries entries + 1
  | .held _ => 1
def uptoBulkAll {H : Type} : List (DataW H) → Nat
  | [] => 0
  | d :: r => uptoBulk d + uptoBulkAll r
def uptoBulkEntries {H : Type} : List (Lit × DataW H) → Nat
  | [] => 0
  | x :: r => uptoBulkEntry x + uptoBulkEntries r
def uptoBulkEntry {H : Type} : Lit × DataW H → Nat
  | (.string bytes, d) => bytes.length + uptoBulk d + 1
  | (_, d) => uptoBulk d + 1
 end
def uptoSmall : (H : Type) → List (DataW H) → Bool := fun _ ds => decide (uptoBulkAll ds ≤ 1048576)
def OpenSpec.upto (s : _root_.Go.ChangeSpec) : _root_.Go.OpenSpec := { _root_.Go.OpenSpec.ofChange s with cond := some uptoSmall }

/-- 'laws.FnJDurationParts', WHERE WHAT IT READS IS OF BULK AT MOST 1048576: true; the input reads as it did. -/
def fnJDurationPartsUptoRow : OpenClaim := { program := "ytfnnahopbghndaa", sum := "0acc414ced323240b5be0f5e93ebcee299579c9e020c4a6b456fbf49ddf1a784", func := "given.example/pub-querent/laws.FnJDurationParts", spec := "fnJDurationParts", inPlace := ["internal/bytealg.IndexByteString"], apart := false, narrowed := true }
def FnJDurationPartsUptoSaid : Prop := fnJDurationPartsUptoRow.holds Try.pinned (OpenSpec.upto fnJDurationPartsSpec)

/-- 'laws.FnJIPv6', WHERE WHAT IT READS IS OF BULK AT MOST 1048576: true; the input reads as it did. -/
def fnJIPv6UptoRow : OpenClaim := { program := "ytfnnahopbghndaa", sum := "0acc414ced323240b5be0f5e93ebcee299579c9e020c4a6b456fbf49ddf1a784", func := "given.example/pub-querent/laws.FnJIPv6", spec := "fnJIPv6", inPlace := ["internal/bytealg.IndexByteString"], apart := false, narrowed := true }
def FnJIPv6UptoSaid : Prop := fnJIPv6UptoRow.holds Try.pinned (OpenSpec.upto fnJIPv6Spec)

/-- 'laws.FnJIPv6Zeros', WHERE WHAT IT READS IS OF BULK AT MOST 1048576: true; the input reads as it did. -/
def fnJIPv6ZerosUptoRow : OpenClaim := { program := "ytfnnahopbghndaa", sum := "0acc414ced323240b5be0f5e93ebcee299579c9e020c4a6b456fbf49ddf1a784", func := "given.example/pub-querent/laws.FnJIPv6Zeros", spec := "fnJIPv6Zeros", inPlace := ["internal/bytealg.IndexByteString"], apart := false, narrowed := true }
def FnJIPv6ZerosUptoSaid : Prop := fnJIPv6ZerosUptoRow.holds Try.pinned (OpenSpec.upto fnJIPv6ZerosSpec)

/-- 'laws.FnJCase', WHERE WHAT IT READS IS OF BULK AT MOST 1048576: true; the input reads as it did. -/
def fnJCaseUptoRow : OpenClaim := { program := "ytfnnahopbghndaa", sum := "0acc414ced323240b5be0f5e93ebcee299579c9e020c4a6b456fbf49ddf1a784", func := "given.example/pub-querent/laws.FnJCase", spec := "fnJCase", inPlace := ["internal/bytealg.IndexByteString"], apart := false, narrowed := true }
def FnJCaseUptoSaid : Prop := fnJCaseUptoRow.holds Try.pinned (OpenSpec.upto fnJCaseSpec)

end Rows
end Go.Proofs.Ytfnnahopbghndaa
