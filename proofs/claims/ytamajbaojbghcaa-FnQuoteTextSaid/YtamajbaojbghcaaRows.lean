/-
  NARROWER THAN 'FOR EVERY INPUT', by the rows' own cells (each row's printed sentence says how): FnCompatible: loops · FnCompatibleOn: loops · FnTypText: loops · FnSameVal: loops · FnSameArgs: loops.
  DERIVED. THE GIVEN ROWS OF THIS SEAT. 8 by the template 'for every input the law returns true; each argument reads behind the call as it read before'; 0 by the template 'total and deterministic' (their statements: YtamajbaojbghcaaTotals.lean).
  GIVEN WITH THE SEED: the statements are not yours to turn. If you find one false, say at which input.
  Laid BY PROGRAM, IN A SANDBOX (cutbox-rows.mjs): the forced cells as the released guide's own fill.sh prints them over the translation bedc8a483029161b… (all of the seat's roots in one cut). By AI agents, Wed Nov 11 2026. No macro, syntax, notation, axiom, sorry.
-/
import Derived.Test.YtamajbaojbghcaaChecked
import GoSem.Claim
import GoSem.ClaimJoined
import GoSem.ClaimMapViews
import Derived.JoinedTies
import Derived.KernelRfl
namespace Go.Proofs.Ytamajbaojbghcaa
/- THE CELL 'sum', in the pinned program and in every row, IS THE sha256 OF THE DUMP (.gsa) THAT YtamajbaojbghcaaProg.lean LOADS. Nothing in Lean hashes anything: it is a label: what it is worth is what the hold of that sum in a sandbox is worth. -/
noncomputable def Try.pinned : Pinned := { name := "ytamajbaojbghcaa", sum := "bedc8a483029161b35e63a66acba20dde6c04557207f88884e140e83ff41d888", checked := Try.checked }
namespace Rows
def none {H : Type} : Left H := { results := [], args := [] }

/-- 'laws.FnCompatible': WHATEVER THE INPUT: true; the input reads as it did. -/
def fnCompatibleSpec : ChangeSpec := { name := "fnCompatible", fn := fun _ => fun
  | [d1, d2] => { results := [.lit (.bool true)], args := [d1, d2] }
  | _ => none }
def fnCompatibleRow : OpenClaim := { program := "ytamajbaojbghcaa", sum := "bedc8a483029161b35e63a66acba20dde6c04557207f88884e140e83ff41d888", func := "given.example/pub-querent/laws.FnCompatible", spec := "fnCompatible", recurses := true, loops := true, apart := false }
def FnCompatibleSaid : Prop := fnCompatibleRow.holds Try.pinned (OpenSpec.ofChange fnCompatibleSpec)

/-- ITS FALSE NEIGHBOUR: 'it returns false'. Refute it at one input. -/
def fnCompatibleWrong : ChangeSpec := { name := "fnCompatible", fn := fun _ => fun
  | [d1, d2] => { results := [.lit (.bool false)], args := [d1, d2] }
  | _ => none }
def FnCompatibleWrongFalsely : Prop := fnCompatibleRow.holds Try.pinned (OpenSpec.ofChange fnCompatibleWrong)

/-- 'laws.FnCompatibleOn': WHATEVER THE INPUT: true; the input reads as it did. -/
def fnCompatibleOnSpec : ChangeSpec := { name := "fnCompatibleOn", fn := fun _ => fun
  | [d1, d2, d3] => { results := [.lit (.bool true)], args := [d1, d2, d3] }
  | _ => none }
def fnCompatibleOnRow : OpenClaim := { program := "ytamajbaojbghcaa", sum := "bedc8a483029161b35e63a66acba20dde6c04557207f88884e140e83ff41d888", func := "given.example/pub-querent/laws.FnCompatibleOn", spec := "fnCompatibleOn", recurses := true, loops := true, apart := false }
def FnCompatibleOnSaid : Prop := fnCompatibleOnRow.holds Try.pinned (OpenSpec.ofChange fnCompatibleOnSpec)

/-- ITS FALSE NEIGHBOUR: 'it returns false'. Refute it at one input. -/
def fnCompatibleOnWrong : ChangeSpec := { name := "fnCompatibleOn", fn := fun _ => fun
  | [d1, d2, d3] => { results := [.lit (.bool false)], args := [d1, d2, d3] }
  | _ => none }
def FnCompatibleOnWrongFalsely : Prop := fnCompatibleOnRow.holds Try.pinned (OpenSpec.ofChange fnCompatibleOnWrong)

/-- 'laws.FnTypText': WHATEVER THE INPUT: true; the input reads as it did. -/
def fnTypTextSpec : ChangeSpec := { name := "fnTypText", fn := fun _ => fun
  | [d] => { results := [.lit (.bool true)], args := [d] }
  | _ => none }
def fnTypTextRow : OpenClaim := { program := "ytamajbaojbghcaa", sum := "bedc8a483029161b35e63a66acba20dde6c04557207f88884e140e83ff41d888", func := "given.example/pub-querent/laws.FnTypText", spec := "fnTypText", recurses := true, loops := true, apart := false }
def FnTypTextSaid : Prop := fnTypTextRow.holds Try.pinned (OpenSpec.ofChange fnTypTextSpec)

/-- ITS FALSE NEIGHBOUR: 'it returns false'. Refute it at one input. -/
def fnTypTextWrong : ChangeSpec := { name := "fnTypText", fn := fun _ => fun
  | [d] => { results := [.lit (.bool false)], args := [d] }
  | _ => none }
def FnTypTextWrongFalsely : Prop := fnTypTextRow.holds Try.pinned (OpenSpec.ofChange fnTypTextWrong)

/-- 'laws.FnBlockText': WHATEVER THE INPUT: true; the input reads as it did. -/
def fnBlockTextSpec : ChangeSpec := { name := "fnBlockText", fn := fun _ => fun
  | [d] => { results := [.lit (.bool true)], args := [d] }
  | _ => none }
def fnBlockTextRow : OpenClaim := { program := "ytamajbaojbghcaa", sum := "bedc8a483029161b35e63a66acba20dde6c04557207f88884e140e83ff41d888", func := "given.example/pub-querent/laws.FnBlockText", spec := "fnBlockText", inPlace := ["internal/abi.NoEscape", "internal/bytealg.MakeNoZero"], apart := false }
def FnBlockTextSaid : Prop := fnBlockTextRow.holds Try.pinned (OpenSpec.ofChange fnBlockTextSpec)

/-- ITS FALSE NEIGHBOUR: 'it returns false'. Refute it at one input. -/
def fnBlockTextWrong : ChangeSpec := { name := "fnBlockText", fn := fun _ => fun
  | [d] => { results := [.lit (.bool false)], args := [d] }
  | _ => none }
def FnBlockTextWrongFalsely : Prop := fnBlockTextRow.holds Try.pinned (OpenSpec.ofChange fnBlockTextWrong)

/-- 'laws.FnQuoteText': WHATEVER THE INPUT: true; the input reads as it did. -/
def fnQuoteTextSpec : ChangeSpec := { name := "fnQuoteText", fn := fun _ => fun
  | [d] => { results := [.lit (.bool true)], args := [d] }
  | _ => none }
def fnQuoteTextRow : OpenClaim := { program := "ytamajbaojbghcaa", sum := "bedc8a483029161b35e63a66acba20dde6c04557207f88884e140e83ff41d888", func := "given.example/pub-querent/laws.FnQuoteText", spec := "fnQuoteText", inPlace := ["internal/abi.NoEscape", "internal/bytealg.MakeNoZero"], apart := false }
def FnQuoteTextSaid : Prop := fnQuoteTextRow.holds Try.pinned (OpenSpec.ofChange fnQuoteTextSpec)

/-- ITS FALSE NEIGHBOUR: 'it returns false'. Refute it at one input. -/
def fnQuoteTextWrong : ChangeSpec := { name := "fnQuoteText", fn := fun _ => fun
  | [d] => { results := [.lit (.bool false)], args := [d] }
  | _ => none }
def FnQuoteTextWrongFalsely : Prop := fnQuoteTextRow.holds Try.pinned (OpenSpec.ofChange fnQuoteTextWrong)

/-- 'laws.FnRootFields': WHATEVER THE INPUT: true; the input reads as it did. -/
def fnRootFieldsSpec : ChangeSpec := { name := "fnRootFields", fn := fun _ => fun
  | [] => { results := [.lit (.bool true)], args := [] }
  | _ => none }
def fnRootFieldsRow : OpenClaim := { program := "ytamajbaojbghcaa", sum := "bedc8a483029161b35e63a66acba20dde6c04557207f88884e140e83ff41d888", func := "given.example/pub-querent/laws.FnRootFields", spec := "fnRootFields", unfollowed := true, recurses := true, apart := false }
def FnRootFieldsSaid : Prop := fnRootFieldsRow.holds Try.pinned (OpenSpec.ofChange fnRootFieldsSpec)

/-- ITS FALSE NEIGHBOUR: 'it returns false'. Refute it at one input. -/
def fnRootFieldsWrong : ChangeSpec := { name := "fnRootFields", fn := fun _ => fun
  | [] => { results := [.lit (.bool false)], args := [] }
  | _ => none }
def FnRootFieldsWrongFalsely : Prop := fnRootFieldsRow.holds Try.pinned (OpenSpec.ofChange fnRootFieldsWrong)

/-- 'laws.FnSameVal': WHATEVER THE INPUT: true; the input reads as it did. -/
def fnSameValSpec : ChangeSpec := { name := "fnSameVal", fn := fun _ => fun
  | [d1, d2] => { results := [.lit (.bool true)], args := [d1, d2] }
  | _ => none }
def fnSameValRow : OpenClaim := { program := "ytamajbaojbghcaa", sum := "bedc8a483029161b35e63a66acba20dde6c04557207f88884e140e83ff41d888", func := "given.example/pub-querent/laws.FnSameVal", spec := "fnSameVal", inPlace := ["internal/bytealg.abigen_runtime_cmpstring"], unfollowed := true, recurses := true, loops := true, apart := false }
def FnSameValSaid : Prop := fnSameValRow.holds Try.pinned (OpenSpec.ofChange fnSameValSpec)

/-- ITS FALSE NEIGHBOUR: 'it returns false'. Refute it at one input. -/
def fnSameValWrong : ChangeSpec := { name := "fnSameVal", fn := fun _ => fun
  | [d1, d2] => { results := [.lit (.bool false)], args := [d1, d2] }
  | _ => none }
def FnSameValWrongFalsely : Prop := fnSameValRow.holds Try.pinned (OpenSpec.ofChange fnSameValWrong)

/-- 'laws.FnSameArgs': WHATEVER THE INPUT: true; the input reads as it did. -/
def fnSameArgsSpec : ChangeSpec := { name := "fnSameArgs", fn := fun _ => fun
  | [d1, d2] => { results := [.lit (.bool true)], args := [d1, d2] }
  | _ => none }
def fnSameArgsRow : OpenClaim := { program := "ytamajbaojbghcaa", sum := "bedc8a483029161b35e63a66acba20dde6c04557207f88884e140e83ff41d888", func := "given.example/pub-querent/laws.FnSameArgs", spec := "fnSameArgs", inPlace := ["internal/bytealg.abigen_runtime_cmpstring"], unfollowed := true, recurses := true, loops := true, apart := false }
def FnSameArgsSaid : Prop := fnSameArgsRow.holds Try.pinned (OpenSpec.ofChange fnSameArgsSpec)

/-- ITS FALSE NEIGHBOUR: 'it returns false'. Refute it at one input. -/
def fnSameArgsWrong : ChangeSpec := { name := "fnSameArgs", fn := fun _ => fun
  | [d1, d2] => { results := [.lit (.bool false)], args := [d1, d2] }
  | _ => none }
def FnSameArgsWrongFalsely : Prop := fnSameArgsRow.holds Try.pinned (OpenSpec.ofChange fnSameArgsWrong)

/- THE SECOND FORM. 'bulk': how many values and letters a reading holds, each counted each time it is reached (what is shared counts as often as it is met; a slice's spare places count too). A statement '..UptoSaid' is the law's where the arguments, and the package variables that the reading takes, are together of bulk at most 1048576: NARROWER than '..Said'. Prove '..Said' where nothing that the law and all that it calls make is longer than what came in: it says more and counts as full. Else prove '..UptoSaid'. A law counts once. -/
mutual
def uptoBulk {H : Type} : DataW H → Nat
  | .lit (.string bytes) => bytes.length + 1
  | .lit _ => 1
  | .nil => 1
  | .ptr d => uptoBulk d + 1
  | .slice elems spare => uptoBulkAll elems + uptoBulkAll spare + 1
  | .agg parts => uptoBulkAll parts + 1
  | .iface _ d => uptoBulk d + 1
  | .map entries => uptoBulkEntries entries + 1
  | .held _ => 1
def uptoBulkAll {H : Type} : List (DataW H) → Nat
  | [] => 0
  | d :: r => uptoBulk d + uptoBulkAll r
def uptoBulkEntries {H : Type} : List (Lit × DataW H) → Nat
  | [] => 0
  | x :: r => uptoBulkEntry x + uptoBulkEntries r
def uptoBulkEntry {H : Type} : Lit × DataW H → Nat
  | (.string bytes, d) => bytes.length + uptoBulk d + 1
  | (_, d) => uptoBulk d + 1
 end
def uptoSmall : (H : Type) → List (DataW H) → Bool := fun _ ds => decide (uptoBulkAll ds ≤ 1048576)
def OpenSpec.upto (s : _root_.Go.ChangeSpec) : _root_.Go.OpenSpec := { _root_.Go.OpenSpec.ofChange s with cond := some uptoSmall }

/-- 'laws.FnCompatible', WHERE WHAT IT READS IS OF BULK AT MOST 1048576: true; the input reads as it did. -/
def fnCompatibleUptoRow : OpenClaim := { program := "ytamajbaojbghcaa", sum := "bedc8a483029161b35e63a66acba20dde6c04557207f88884e140e83ff41d888", func := "given.example/pub-querent/laws.FnCompatible", spec := "fnCompatible", recurses := true, loops := true, apart := false, narrowed := true }
def FnCompatibleUptoSaid : Prop := fnCompatibleUptoRow.holds Try.pinned (OpenSpec.upto fnCompatibleSpec)

/-- 'laws.FnCompatibleOn', WHERE WHAT IT READS IS OF BULK AT MOST 1048576: true; the input reads as it did. -/
def fnCompatibleOnUptoRow : OpenClaim := { program := "ytamajbaojbghcaa", sum := "bedc8a483029161b35e63a66acba20dde6c04557207f88884e140e83ff41d888", func := "given.example/pub-querent/laws.FnCompatibleOn", spec := "fnCompatibleOn", recurses := true, loops := true, apart := false, narrowed := true }
def FnCompatibleOnUptoSaid : Prop := fnCompatibleOnUptoRow.holds Try.pinned (OpenSpec.upto fnCompatibleOnSpec)

/-- 'laws.FnTypText', WHERE WHAT IT READS IS OF BULK AT MOST 1048576: true; the input reads as it did. -/
def fnTypTextUptoRow : OpenClaim := { program := "ytamajbaojbghcaa", sum := "bedc8a483029161b35e63a66acba20dde6c04557207f88884e140e83ff41d888", func := "given.example/pub-querent/laws.FnTypText", spec := "fnTypText", recurses := true, loops := true, apart := false, narrowed := true }
def FnTypTextUptoSaid : Prop := fnTypTextUptoRow.holds Try.pinned (OpenSpec.upto fnTypTextSpec)

/-- 'laws.FnBlockText', WHERE WHAT IT READS IS OF BULK AT MOST 1048576: true; the input reads as it did. -/
def fnBlockTextUptoRow : OpenClaim := { program := "ytamajbaojbghcaa", sum := "bedc8a483029161b35e63a66acba20dde6c04557207f88884e140e83ff41d888", func := "given.example/pub-querent/laws.FnBlockText", spec := "fnBlockText", inPlace := ["internal/abi.NoEscape", "internal/bytealg.MakeNoZero"], apart := false, narrowed := true }
def FnBlockTextUptoSaid : Prop := fnBlockTextUptoRow.holds Try.pinned (OpenSpec.upto fnBlockTextSpec)

/-- 'laws.FnQuoteText', WHERE WHAT IT READS IS OF BULK AT MOST 1048576: true; the input reads as it did. -/
def fnQuoteTextUptoRow : OpenClaim := { program := "ytamajbaojbghcaa", sum := "bedc8a483029161b35e63a66acba20dde6c04557207f88884e140e83ff41d888", func := "given.example/pub-querent/laws.FnQuoteText", spec := "fnQuoteText", inPlace := ["internal/abi.NoEscape", "internal/bytealg.MakeNoZero"], apart := false, narrowed := true }
def FnQuoteTextUptoSaid : Prop := fnQuoteTextUptoRow.holds Try.pinned (OpenSpec.upto fnQuoteTextSpec)

/-- 'laws.FnRootFields', WHERE WHAT IT READS IS OF BULK AT MOST 1048576: true; the input reads as it did. -/
def fnRootFieldsUptoRow : OpenClaim := { program := "ytamajbaojbghcaa", sum := "bedc8a483029161b35e63a66acba20dde6c04557207f88884e140e83ff41d888", func := "given.example/pub-querent/laws.FnRootFields", spec := "fnRootFields", unfollowed := true, recurses := true, apart := false, narrowed := true }
def FnRootFieldsUptoSaid : Prop := fnRootFieldsUptoRow.holds Try.pinned (OpenSpec.upto fnRootFieldsSpec)

/-- 'laws.FnSameVal', WHERE WHAT IT READS IS OF BULK AT MOST 1048576: true; the input reads as it did. -/
def fnSameValUptoRow : OpenClaim := { program := "ytamajbaojbghcaa", sum := "bedc8a483029161b35e63a66acba20dde6c04557207f88884e140e83ff41d888", func := "given.example/pub-querent/laws.FnSameVal", spec := "fnSameVal", inPlace := ["internal/bytealg.abigen_runtime_cmpstring"], unfollowed := true, recurses := true, loops := true, apart := false, narrowed := true }
def FnSameValUptoSaid : Prop := fnSameValUptoRow.holds Try.pinned (OpenSpec.upto fnSameValSpec)

/-- 'laws.FnSameArgs', WHERE WHAT IT READS IS OF BULK AT MOST 1048576: true; the input reads as it did. -/
def fnSameArgsUptoRow : OpenClaim := { program := "ytamajbaojbghcaa", sum := "bedc8a483029161b35e63a66acba20dde6c04557207f88884e140e83ff41d888", func := "given.example/pub-querent/laws.FnSameArgs", spec := "fnSameArgs", inPlace := ["internal/bytealg.abigen_runtime_cmpstring"], unfollowed := true, recurses := true, loops := true, apart := false, narrowed := true }
def FnSameArgsUptoSaid : Prop := fnSameArgsUptoRow.holds Try.pinned (OpenSpec.upto fnSameArgsSpec)

end Rows
end Go.Proofs.Ytamajbaojbghcaa
