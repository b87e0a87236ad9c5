/-
  NARROWER THAN 'FOR EVERY INPUT', by the rows' own cells (each row's printed sentence says how): FnJIPv4: laid · FnJIPv4Parts: laid · FnJTime: laid · FnJTimeLeap: laid · FnJTimeSame: laid · FnJEmail: laid · FnJEmailParts: laid.
  DERIVED. THE GIVEN ROWS OF THIS SEAT. 7 by the template 'for every input the law returns true; each argument reads behind the call as it read before'; 0 by the template 'total and deterministic' (their statements: YtfnnahopbghndaaDoorTotals.lean).
  GIVEN WITH THE SEED: the statements are not yours to turn. If you find one false, say at which input.
  Laid BY PROGRAM, IN A SANDBOX (cutbox-rows.mjs): the forced cells as the released guide's own fill.sh prints them over the translation 41daf91ab9ba02bc… (all of the seat's roots in one cut). By AI agents, Wed Nov 11 2026. No macro, syntax, notation, axiom, sorry.
-/
import Derived.Test.YtfnnahopbghndaaDoorChecked
import GoSem.Claim
import GoSem.ClaimJoined
import GoSem.ClaimMapViews
import Derived.JoinedTies
import Derived.KernelRfl
namespace Go.Proofs.YtfnnahopbghndaaDoor
/- THE CELL 'sum', in the pinned program and in every row, IS THE sha256 OF THE DUMP (.gsa) THAT YtfnnahopbghndaaDoorProg.lean LOADS. Nothing in Lean hashes anything: it is a label: what it is worth is what the hold of that sum in a sandbox is worth. -/
noncomputable def Tryd.pinned : Pinned := { name := "ytfnnahopbghndaadoor", sum := "41daf91ab9ba02bcbec2e28dbb90d84b6cf16b79b3b7d27aab2fbf88b3c0ce76", checked := Tryd.checked }
namespace Rows
def none {H : Type} : Left H := { results := [], args := [] }

/- WHAT THE LISTED PACKAGE-LEVEL VARIABLES READ AS WHEN THE CALL BEGINS. Each datum BY PROGRAM (the guide's laid-datum.mjs) off the statement by which the dump's own 'gosem.cut.vars' lays the variable. In a bare row this is a premise. The card (YtfnnahopbghndaaDoorCards.lean) ties it to the program's text. -/
def laid_math_bits_deBruijn32tab {H : Type} : DataW H := .agg [.lit (.int .u8 0), .lit (.int .u8 1), .lit (.int .u8 28), .lit (.int .u8 2), .lit (.int .u8 29), .lit (.int .u8 14), .lit (.int .u8 24), .lit (.int .u8 3), .lit (.int .u8 30), .lit (.int .u8 22), .lit (.int .u8 20), .lit (.int .u8 15), .lit (.int .u8 25), .lit (.int .u8 17), .lit (.int .u8 4), .lit (.int .u8 8), .lit (.int .u8 31), .lit (.int .u8 27), .lit (.int .u8 13), .lit (.int .u8 23), .lit (.int .u8 21), .lit (.int .u8 19), .lit (.int .u8 16), .lit (.int .u8 7), .lit (.int .u8 26), .lit (.int .u8 12), .lit (.int .u8 18), .lit (.int .u8 6), .lit (.int .u8 11), .lit (.int .u8 5), .lit (.int .u8 10), .lit (.int .u8 9)]
def laid_math_bits_deBruijn64tab {H : Type} : DataW H := .agg [.lit (.int .u8 0), .lit (.int .u8 1), .lit (.int .u8 56), .lit (.int .u8 2), .lit (.int .u8 57), .lit (.int .u8 49), .lit (.int .u8 28), .lit (.int .u8 3), .lit (.int .u8 61), .lit (.int .u8 58), .lit (.int .u8 42), .lit (.int .u8 50), .lit (.int .u8 38), .lit (.int .u8 29), .lit (.int .u8 17), .lit (.int .u8 4), .lit (.int .u8 62), .lit (.int .u8 47), .lit (.int .u8 59), .lit (.int .u8 36), .lit (.int .u8 45), .lit (.int .u8 43), .lit (.int .u8 51), .lit (.int .u8 22), .lit (.int .u8 53), .lit (.int .u8 39), .lit (.int .u8 33), .lit (.int .u8 30), .lit (.int .u8 24), .lit (.int .u8 18), .lit (.int .u8 12), .lit (.int .u8 5), .lit (.int .u8 63), .lit (.int .u8 55), .lit (.int .u8 48), .lit (.int .u8 27), .lit (.int .u8 60), .lit (.int .u8 41), .lit (.int .u8 37), .lit (.int .u8 16), .lit (.int .u8 46), .lit (.int .u8 35), .lit (.int .u8 44), .lit (.int .u8 21), .lit (.int .u8 52), .lit (.int .u8 32), .lit (.int .u8 23), .lit (.int .u8 11), .lit (.int .u8 54), .lit (.int .u8 26), .lit (.int .u8 40), .lit (.int .u8 15), .lit (.int .u8 34), .lit (.int .u8 20), .lit (.int .u8 31), .lit (.int .u8 10), .lit (.int .u8 25), .lit (.int .u8 14), .lit (.int .u8 19), .lit (.int .u8 9), .lit (.int .u8 13), .lit (.int .u8 8), .lit (.int .u8 7), .lit (.int .u8 6)]
def laid_internal_strconv_uint64pow10 {H : Type} : DataW H := .agg [.lit (.int .u64 1), .lit (.int .u64 10), .lit (.int .u64 100), .lit (.int .u64 1000), .lit (.int .u64 10000), .lit (.int .u64 100000), .lit (.int .u64 1000000), .lit (.int .u64 10000000), .lit (.int .u64 100000000), .lit (.int .u64 1000000000), .lit (.int .u64 10000000000), .lit (.int .u64 100000000000), .lit (.int .u64 1000000000000), .lit (.int .u64 10000000000000), .lit (.int .u64 100000000000000), .lit (.int .u64 1000000000000000), .lit (.int .u64 10000000000000000), .lit (.int .u64 100000000000000000), .lit (.int .u64 1000000000000000000), .lit (.int .u64 10000000000000000000)]
def laid_strconv_ErrRange {H : Type} : DataW H := .iface "*errors.errorString" (.ptr (.agg [.lit (.string [118, 97, 108, 117, 101, 32, 111, 117, 116, 32, 111, 102, 32, 114, 97, 110, 103, 101])]))
def laid_strconv_ErrSyntax {H : Type} : DataW H := .iface "*errors.errorString" (.ptr (.agg [.lit (.string [105, 110, 118, 97, 108, 105, 100, 32, 115, 121, 110, 116, 97, 120])]))

/-- 'laws.FnJIPv4': WHATEVER THE INPUT: true; the input reads as it did. -/
def fnJIPv4Spec : ChangeSpec := { name := "fnJIPv4", fn := fun _ => fun
  | [d] => { results := [.lit (.bool true)], args := [d] }
  | _ => none }
def fnJIPv4Row : OpenClaim := { program := "ytfnnahopbghndaadoor", sum := "41daf91ab9ba02bcbec2e28dbb90d84b6cf16b79b3b7d27aab2fbf88b3c0ce76", func := "given.example/pub-querent/laws.FnJIPv4", spec := "fnJIPv4", named := ["strconv.ErrSyntax", "strconv.ErrRange", "internal/strconv.uint64pow10", "math/bits.deBruijn32tab", "math/bits.deBruijn64tab"], apart := false, laid := [("math/bits.deBruijn32tab", laid_math_bits_deBruijn32tab), ("math/bits.deBruijn64tab", laid_math_bits_deBruijn64tab), ("internal/strconv.uint64pow10", laid_internal_strconv_uint64pow10), ("strconv.ErrRange", laid_strconv_ErrRange), ("strconv.ErrSyntax", laid_strconv_ErrSyntax)] }
def FnJIPv4Said : Prop := fnJIPv4Row.holds Tryd.pinned (OpenSpec.ofChange fnJIPv4Spec)

/-- ITS FALSE NEIGHBOUR: 'it returns false'. Refute it at one input. -/
def fnJIPv4Wrong : ChangeSpec := { name := "fnJIPv4", fn := fun _ => fun
  | [d] => { results := [.lit (.bool false)], args := [d] }
  | _ => none }
def FnJIPv4WrongFalsely : Prop := fnJIPv4Row.holds Tryd.pinned (OpenSpec.ofChange fnJIPv4Wrong)

/-- 'laws.FnJIPv4Parts': WHATEVER THE INPUT: true; the input reads as it did. -/
def fnJIPv4PartsSpec : ChangeSpec := { name := "fnJIPv4Parts", fn := fun _ => fun
  | [d1, d2, d3, d4] => { results := [.lit (.bool true)], args := [d1, d2, d3, d4] }
  | _ => none }
def fnJIPv4PartsRow : OpenClaim := { program := "ytfnnahopbghndaadoor", sum := "41daf91ab9ba02bcbec2e28dbb90d84b6cf16b79b3b7d27aab2fbf88b3c0ce76", func := "given.example/pub-querent/laws.FnJIPv4Parts", spec := "fnJIPv4Parts", named := ["strconv.ErrSyntax", "strconv.ErrRange", "internal/strconv.uint64pow10", "math/bits.deBruijn32tab", "math/bits.deBruijn64tab"], apart := false, laid := [("math/bits.deBruijn32tab", laid_math_bits_deBruijn32tab), ("math/bits.deBruijn64tab", laid_math_bits_deBruijn64tab), ("internal/strconv.uint64pow10", laid_internal_strconv_uint64pow10), ("strconv.ErrRange", laid_strconv_ErrRange), ("strconv.ErrSyntax", laid_strconv_ErrSyntax)] }
def FnJIPv4PartsSaid : Prop := fnJIPv4PartsRow.holds Tryd.pinned (OpenSpec.ofChange fnJIPv4PartsSpec)

/-- ITS FALSE NEIGHBOUR: 'it returns false'. Refute it at one input. -/
def fnJIPv4PartsWrong : ChangeSpec := { name := "fnJIPv4Parts", fn := fun _ => fun
  | [d1, d2, d3, d4] => { results := [.lit (.bool false)], args := [d1, d2, d3, d4] }
  | _ => none }
def FnJIPv4PartsWrongFalsely : Prop := fnJIPv4PartsRow.holds Tryd.pinned (OpenSpec.ofChange fnJIPv4PartsWrong)

/-- 'laws.FnJTime': WHATEVER THE INPUT: true; the input reads as it did. -/
def fnJTimeSpec : ChangeSpec := { name := "fnJTime", fn := fun _ => fun
  | [d] => { results := [.lit (.bool true)], args := [d] }
  | _ => none }
def fnJTimeRow : OpenClaim := { program := "ytfnnahopbghndaadoor", sum := "41daf91ab9ba02bcbec2e28dbb90d84b6cf16b79b3b7d27aab2fbf88b3c0ce76", func := "given.example/pub-querent/laws.FnJTime", spec := "fnJTime", named := ["strconv.ErrSyntax", "strconv.ErrRange", "internal/strconv.uint64pow10", "math/bits.deBruijn32tab", "math/bits.deBruijn64tab"], apart := false, laid := [("math/bits.deBruijn32tab", laid_math_bits_deBruijn32tab), ("math/bits.deBruijn64tab", laid_math_bits_deBruijn64tab), ("internal/strconv.uint64pow10", laid_internal_strconv_uint64pow10), ("strconv.ErrRange", laid_strconv_ErrRange), ("strconv.ErrSyntax", laid_strconv_ErrSyntax)] }
def FnJTimeSaid : Prop := fnJTimeRow.holds Tryd.pinned (OpenSpec.ofChange fnJTimeSpec)

/-- ITS FALSE NEIGHBOUR: 'it returns false'. Refute it at one input. -/
def fnJTimeWrong : ChangeSpec := { name := "fnJTime", fn := fun _ => fun
  | [d] => { results := [.lit (.bool false)], args := [d] }
  | _ => none }
def FnJTimeWrongFalsely : Prop := fnJTimeRow.holds Tryd.pinned (OpenSpec.ofChange fnJTimeWrong)

/-- 'laws.FnJTimeLeap': WHATEVER THE INPUT: true; the input reads as it did. -/
def fnJTimeLeapSpec : ChangeSpec := { name := "fnJTimeLeap", fn := fun _ => fun
  | [d1, d2, d3, d4, d5] => { results := [.lit (.bool true)], args := [d1, d2, d3, d4, d5] }
  | _ => none }
def fnJTimeLeapRow : OpenClaim := { program := "ytfnnahopbghndaadoor", sum := "41daf91ab9ba02bcbec2e28dbb90d84b6cf16b79b3b7d27aab2fbf88b3c0ce76", func := "given.example/pub-querent/laws.FnJTimeLeap", spec := "fnJTimeLeap", named := ["strconv.ErrSyntax", "strconv.ErrRange", "internal/strconv.uint64pow10", "math/bits.deBruijn32tab", "math/bits.deBruijn64tab"], apart := false, laid := [("math/bits.deBruijn32tab", laid_math_bits_deBruijn32tab), ("math/bits.deBruijn64tab", laid_math_bits_deBruijn64tab), ("internal/strconv.uint64pow10", laid_internal_strconv_uint64pow10), ("strconv.ErrRange", laid_strconv_ErrRange), ("strconv.ErrSyntax", laid_strconv_ErrSyntax)] }
def FnJTimeLeapSaid : Prop := fnJTimeLeapRow.holds Tryd.pinned (OpenSpec.ofChange fnJTimeLeapSpec)

/-- ITS FALSE NEIGHBOUR: 'it returns false'. Refute it at one input. -/
def fnJTimeLeapWrong : ChangeSpec := { name := "fnJTimeLeap", fn := fun _ => fun
  | [d1, d2, d3, d4, d5] => { results := [.lit (.bool false)], args := [d1, d2, d3, d4, d5] }
  | _ => none }
def FnJTimeLeapWrongFalsely : Prop := fnJTimeLeapRow.holds Tryd.pinned (OpenSpec.ofChange fnJTimeLeapWrong)

/-- 'laws.FnJTimeSame': WHATEVER THE INPUT: true; the input reads as it did. -/
def fnJTimeSameSpec : ChangeSpec := { name := "fnJTimeSame", fn := fun _ => fun
  | [d1, d2, d3, d4] => { results := [.lit (.bool true)], args := [d1, d2, d3, d4] }
  | _ => none }
def fnJTimeSameRow : OpenClaim := { program := "ytfnnahopbghndaadoor", sum := "41daf91ab9ba02bcbec2e28dbb90d84b6cf16b79b3b7d27aab2fbf88b3c0ce76", func := "given.example/pub-querent/laws.FnJTimeSame", spec := "fnJTimeSame", named := ["strconv.ErrSyntax", "strconv.ErrRange", "internal/strconv.uint64pow10", "math/bits.deBruijn32tab", "math/bits.deBruijn64tab"], apart := false, laid := [("math/bits.deBruijn32tab", laid_math_bits_deBruijn32tab), ("math/bits.deBruijn64tab", laid_math_bits_deBruijn64tab), ("internal/strconv.uint64pow10", laid_internal_strconv_uint64pow10), ("strconv.ErrRange", laid_strconv_ErrRange), ("strconv.ErrSyntax", laid_strconv_ErrSyntax)] }
def FnJTimeSameSaid : Prop := fnJTimeSameRow.holds Tryd.pinned (OpenSpec.ofChange fnJTimeSameSpec)

/-- ITS FALSE NEIGHBOUR: 'it returns false'. Refute it at one input. -/
def fnJTimeSameWrong : ChangeSpec := { name := "fnJTimeSame", fn := fun _ => fun
  | [d1, d2, d3, d4] => { results := [.lit (.bool false)], args := [d1, d2, d3, d4] }
  | _ => none }
def FnJTimeSameWrongFalsely : Prop := fnJTimeSameRow.holds Tryd.pinned (OpenSpec.ofChange fnJTimeSameWrong)

/-- 'laws.FnJEmail': WHATEVER THE INPUT: true; the input reads as it did. -/
def fnJEmailSpec : ChangeSpec := { name := "fnJEmail", fn := fun _ => fun
  | [d] => { results := [.lit (.bool true)], args := [d] }
  | _ => none }
def fnJEmailRow : OpenClaim := { program := "ytfnnahopbghndaadoor", sum := "41daf91ab9ba02bcbec2e28dbb90d84b6cf16b79b3b7d27aab2fbf88b3c0ce76", func := "given.example/pub-querent/laws.FnJEmail", spec := "fnJEmail", inPlace := ["internal/bytealg.IndexByteString"], named := ["strconv.ErrSyntax", "strconv.ErrRange", "internal/strconv.uint64pow10", "math/bits.deBruijn32tab", "math/bits.deBruijn64tab"], apart := false, laid := [("math/bits.deBruijn32tab", laid_math_bits_deBruijn32tab), ("math/bits.deBruijn64tab", laid_math_bits_deBruijn64tab), ("internal/strconv.uint64pow10", laid_internal_strconv_uint64pow10), ("strconv.ErrRange", laid_strconv_ErrRange), ("strconv.ErrSyntax", laid_strconv_ErrSyntax)] }
def FnJEmailSaid : Prop := fnJEmailRow.holds Tryd.pinned (OpenSpec.ofChange fnJEmailSpec)

/-- ITS FALSE NEIGHBOUR: 'it returns false'. Refute it at one input. -/
def fnJEmailWrong : ChangeSpec := { name := "fnJEmail", fn := fun _ => fun
  | [d] => { results := [.lit (.bool false)], args := [d] }
  | _ => none }
def FnJEmailWrongFalsely : Prop := fnJEmailRow.holds Tryd.pinned (OpenSpec.ofChange fnJEmailWrong)

/-- 'laws.FnJEmailParts': WHATEVER THE INPUT: true; the input reads as it did. -/
def fnJEmailPartsSpec : ChangeSpec := { name := "fnJEmailParts", fn := fun _ => fun
  | [d1, d2] => { results := [.lit (.bool true)], args := [d1, d2] }
  | _ => none }
def fnJEmailPartsRow : OpenClaim := { program := "ytfnnahopbghndaadoor", sum := "41daf91ab9ba02bcbec2e28dbb90d84b6cf16b79b3b7d27aab2fbf88b3c0ce76", func := "given.example/pub-querent/laws.FnJEmailParts", spec := "fnJEmailParts", inPlace := ["internal/bytealg.IndexByteString"], named := ["strconv.ErrSyntax", "strconv.ErrRange", "internal/strconv.uint64pow10", "math/bits.deBruijn32tab", "math/bits.deBruijn64tab"], apart := false, laid := [("math/bits.deBruijn32tab", laid_math_bits_deBruijn32tab), ("math/bits.deBruijn64tab", laid_math_bits_deBruijn64tab), ("internal/strconv.uint64pow10", laid_internal_strconv_uint64pow10), ("strconv.ErrRange", laid_strconv_ErrRange), ("strconv.ErrSyntax", laid_strconv_ErrSyntax)] }
def FnJEmailPartsSaid : Prop := fnJEmailPartsRow.holds Tryd.pinned (OpenSpec.ofChange fnJEmailPartsSpec)

/-- ITS FALSE NEIGHBOUR: 'it returns false'. Refute it at one input. -/
def fnJEmailPartsWrong : ChangeSpec := { name := "fnJEmailParts", fn := fun _ => fun
  | [d1, d2] => { results := [.lit (.bool false)], args := [d1, d2] }
  | _ => none }
def FnJEmailPartsWrongFalsely : Prop := fnJEmailPartsRow.holds Tryd.pinned (OpenSpec.ofChange fnJEmailPartsWrong)

/- THE SECOND FORM. 'bulk': how many values and letters a reading holds, each counted each time it is reached (what is shared counts as often as it is met; a slice's spare places count too). A statement '..UptoSaid' is the law's where the arguments, and the package variables that the reading takes, are together of bulk at most 1048576: NARROWER than '..Said'. Prove '..Said' where nothing that the law and all that it calls make is longer than what came in: it says more and counts as full. Else prove '..UptoSaid'. A law counts once. -/
mutual
def uptoBulk {H : Type} : DataW H → Nat
  | .lit (.string bytes) => bytes.length + 1
  | .lit _ => 1
  | .nil => 1
  | .ptr d => uptoBulk d + 1
  | .slice elems spare => uptoBulkAll elems + uptoBulkAll spare + 1
  | .agg parts => uptoBulkAll parts + 1
  | .iface _ d => uptoBulk d + 1
  | .map entries => uptoBulkEntries entries + 1
  | .held _ => 1
def uptoBulkAll {H : Type} : List (DataW H) → Nat
  | [] => 0
  | d :: r => uptoBulk d + uptoBulkAll r
def uptoBulkEntries {H : Type} : List (Lit × DataW H) → Nat
  | [] => 0
  | x :: r => uptoBulkEntry x + uptoBulkEntries r
def uptoBulkEntry {H : Type} : Lit × DataW H → Nat
  | (.string bytes, d) => bytes.length + uptoBulk d + 1
  | (_, d) => uptoBulk d + 1
 end
def uptoSmall : (H : Type) → List (DataW H) → Bool := fun _ ds => decide (uptoBulkAll ds ≤ 1048576)
def OpenSpec.upto (s : _root_.Go.ChangeSpec) : _root_.Go.OpenSpec := { _root_.Go.OpenSpec.ofChange s with cond := some uptoSmall }

/-- 'laws.FnJIPv4', WHERE WHAT IT READS IS OF BULK AT MOST 1048576: true; the input reads as it did. -/
def fnJIPv4UptoRow : OpenClaim := { program := "ytfnnahopbghndaadoor", sum := "41daf91ab9ba02bcbec2e28dbb90d84b6cf16b79b3b7d27aab2fbf88b3c0ce76", func := "given.example/pub-querent/laws.FnJIPv4", spec := "fnJIPv4", named := ["strconv.ErrSyntax", "strconv.ErrRange", "internal/strconv.uint64pow10", "math/bits.deBruijn32tab", "math/bits.deBruijn64tab"], apart := false, laid := [("math/bits.deBruijn32tab", laid_math_bits_deBruijn32tab), ("math/bits.deBruijn64tab", laid_math_bits_deBruijn64tab), ("internal/strconv.uint64pow10", laid_internal_strconv_uint64pow10), ("strconv.ErrRange", laid_strconv_ErrRange), ("strconv.ErrSyntax", laid_strconv_ErrSyntax)], narrowed := true }
def FnJIPv4UptoSaid : Prop := fnJIPv4UptoRow.holds Tryd.pinned (OpenSpec.upto fnJIPv4Spec)

/-- 'laws.FnJIPv4Parts', WHERE WHAT IT READS IS OF BULK AT MOST 1048576: true; the input reads as it did. -/
def fnJIPv4PartsUptoRow : OpenClaim := { program := "ytfnnahopbghndaadoor", sum := "41daf91ab9ba02bcbec2e28dbb90d84b6cf16b79b3b7d27aab2fbf88b3c0ce76", func := "given.example/pub-querent/laws.FnJIPv4Parts", spec := "fnJIPv4Parts", named := ["strconv.ErrSyntax", "strconv.ErrRange", "internal/strconv.uint64pow10", "math/bits.deBruijn32tab", "math/bits.deBruijn64tab"], apart := false, laid := [("math/bits.deBruijn32tab", laid_math_bits_deBruijn32tab), ("math/bits.deBruijn64tab", laid_math_bits_deBruijn64tab), ("internal/strconv.uint64pow10", laid_internal_strconv_uint64pow10), ("strconv.ErrRange", laid_strconv_ErrRange), ("strconv.ErrSyntax", laid_strconv_ErrSyntax)], narrowed := true }
def FnJIPv4PartsUptoSaid : Prop := fnJIPv4PartsUptoRow.holds Tryd.pinned (OpenSpec.upto fnJIPv4PartsSpec)

/-- 'laws.FnJTime', WHERE WHAT IT READS IS OF BULK AT MOST 1048576: true; the input reads as it did. -/
def fnJTimeUptoRow : OpenClaim := { program := "ytfnnahopbghndaadoor", sum := "41daf91ab9ba02bcbec2e28dbb90d84b6cf16b79b3b7d27aab2fbf88b3c0ce76", func := "given.example/pub-querent/laws.FnJTime", spec := "fnJTime", named := ["strconv.ErrSyntax", "strconv.ErrRange", "internal/strconv.uint64pow10", "math/bits.deBruijn32tab", "math/bits.deBruijn64tab"], apart := false, laid := [("math/bits.deBruijn32tab", laid_math_bits_deBruijn32tab), ("math/bits.deBruijn64tab", laid_math_bits_deBruijn64tab), ("internal/strconv.uint64pow10", laid_internal_strconv_uint64pow10), ("strconv.ErrRange", laid_strconv_ErrRange), ("strconv.ErrSyntax", laid_strconv_ErrSyntax)], narrowed := true }
def FnJTimeUptoSaid : Prop := fnJTimeUptoRow.holds Tryd.pinned (OpenSpec.upto fnJTimeSpec)

/-- 'laws.FnJTimeLeap', WHERE WHAT IT READS IS OF BULK AT MOST 1048576: true; the input reads as it did. -/
def fnJTimeLeapUptoRow : OpenClaim := { program := "ytfnnahopbghndaadoor", sum := "41daf91ab9ba02bcbec2e28dbb90d84b6cf16b79b3b7d27aab2fbf88b3c0ce76", func := "given.example/pub-querent/laws.FnJTimeLeap", spec := "fnJTimeLeap", named := ["strconv.ErrSyntax", "strconv.ErrRange", "internal/strconv.uint64pow10", "math/bits.deBruijn32tab", "math/bits.deBruijn64tab"], apart := false, laid := [("math/bits.deBruijn32tab", laid_math_bits_deBruijn32tab), ("math/bits.deBruijn64tab", laid_math_bits_deBruijn64tab), ("internal/strconv.uint64pow10", laid_internal_strconv_uint64pow10), ("strconv.ErrRange", laid_strconv_ErrRange), ("strconv.ErrSyntax", laid_strconv_ErrSyntax)], narrowed := true }
def FnJTimeLeapUptoSaid : Prop := fnJTimeLeapUptoRow.holds Tryd.pinned (OpenSpec.upto fnJTimeLeapSpec)

/-- 'laws.FnJTimeSame', WHERE WHAT IT READS IS OF BULK AT MOST 1048576: true; the input reads as it did. -/
def fnJTimeSameUptoRow : OpenClaim := { program := "ytfnnahopbghndaadoor", sum := "41daf91ab9ba02bcbec2e28dbb90d84b6cf16b79b3b7d27aab2fbf88b3c0ce76", func := "given.example/pub-querent/laws.FnJTimeSame", spec := "fnJTimeSame", named := ["strconv.ErrSyntax", "strconv.ErrRange", "internal/strconv.uint64pow10", "math/bits.deBruijn32tab", "math/bits.deBruijn64tab"], apart := false, laid := [("math/bits.deBruijn32tab", laid_math_bits_deBruijn32tab), ("math/bits.deBruijn64tab", laid_math_bits_deBruijn64tab), ("internal/strconv.uint64pow10", laid_internal_strconv_uint64pow10), ("strconv.ErrRange", laid_strconv_ErrRange), ("strconv.ErrSyntax", laid_strconv_ErrSyntax)], narrowed := true }
def FnJTimeSameUptoSaid : Prop := fnJTimeSameUptoRow.holds Tryd.pinned (OpenSpec.upto fnJTimeSameSpec)

/-- 'laws.FnJEmail', WHERE WHAT IT READS IS OF BULK AT MOST 1048576: true; the input reads as it did. -/
def fnJEmailUptoRow : OpenClaim := { program := "ytfnnahopbghndaadoor", sum := "41daf91ab9ba02bcbec2e28dbb90d84b6cf16b79b3b7d27aab2fbf88b3c0ce76", func := "given.example/pub-querent/laws.FnJEmail", spec := "fnJEmail", inPlace := ["internal/bytealg.IndexByteString"], named := ["strconv.ErrSyntax", "strconv.ErrRange", "internal/strconv.uint64pow10", "math/bits.deBruijn32tab", "math/bits.deBruijn64tab"], apart := false, laid := [("math/bits.deBruijn32tab", laid_math_bits_deBruijn32tab), ("math/bits.deBruijn64tab", laid_math_bits_deBruijn64tab), ("internal/strconv.uint64pow10", laid_internal_strconv_uint64pow10), ("strconv.ErrRange", laid_strconv_ErrRange), ("strconv.ErrSyntax", laid_strconv_ErrSyntax)], narrowed := true }
def FnJEmailUptoSaid : Prop := fnJEmailUptoRow.holds Tryd.pinned (OpenSpec.upto fnJEmailSpec)

/-- 'laws.FnJEmailParts', WHERE WHAT IT READS IS OF BULK AT MOST 1048576: true; the input reads as it did. -/
def fnJEmailPartsUptoRow : OpenClaim := { program := "ytfnnahopbghndaadoor", sum := "41daf91ab9ba02bcbec2e28dbb90d84b6cf16b79b3b7d27aab2fbf88b3c0ce76", func := "given.example/pub-querent/laws.FnJEmailParts", spec := "fnJEmailParts", inPlace := ["internal/bytealg.IndexByteString"], named := ["strconv.ErrSyntax", "strconv.ErrRange", "internal/strconv.uint64pow10", "math/bits.deBruijn32tab", "math/bits.deBruijn64tab"], apart := false, laid := [("math/bits.deBruijn32tab", laid_math_bits_deBruijn32tab), ("math/bits.deBruijn64tab", laid_math_bits_deBruijn64tab), ("internal/strconv.uint64pow10", laid_internal_strconv_uint64pow10), ("strconv.ErrRange", laid_strconv_ErrRange), ("strconv.ErrSyntax", laid_strconv_ErrSyntax)], narrowed := true }
def FnJEmailPartsUptoSaid : Prop := fnJEmailPartsUptoRow.holds Tryd.pinned (OpenSpec.upto fnJEmailPartsSpec)

end Rows
end Go.Proofs.YtfnnahopbghndaaDoor
