/-
  No cell of these rows narrows 'for every input' (looked for: loops, veiled, ifaces, maps, wideKeys, modest, calm, conditions, laid).
  DERIVED. THE GIVEN ROWS OF THIS SEAT. 12 by the template 'for every input the law returns true; each argument reads behind the call as it read before'; 0 by the template 'total and deterministic' (their statements: YtdjmjgdafghdgaaTotals.lean).
  GIVEN WITH THE SEED: the statements are not yours to turn. If you find one false, say at which input.
  Laid BY PROGRAM, IN A SANDBOX (cutbox-rows.mjs): the forced cells as the released guide's own fill.sh prints them over the translation 604d58b656bb542c… (all of the seat's roots in one cut). By AI agents, Wed Nov 11 2026. No macro, syntax, notation, axiom, sorry.
-/
import Derived.Test.YtdjmjgdafghdgaaChecked
import GoSem.Claim
import GoSem.ClaimJoined
import GoSem.ClaimMapViews
import Derived.JoinedTies
import Derived.KernelRfl
namespace Go.Proofs.Ytdjmjgdafghdgaa
/- THE CELL 'sum', in the pinned program and in every row, IS THE sha256 OF THE DUMP (.gsa) THAT YtdjmjgdafghdgaaProg.lean LOADS. Nothing in Lean hashes anything: it is a label: what it is worth is what the hold of that sum in a sandbox is worth. -/
noncomputable def Try.pinned : Pinned := { name := "ytdjmjgdafghdgaa", sum := "604d58b656bb542c9bf7447cd2b25e9e65e8e5978c1a8602b6676218f8a23237", checked := Try.checked }
namespace Rows
def none {H : Type} : Left H := { results := [], args := [] }

/-- 'laws.FnJEscape': WHATEVER THE INPUT: true; the input reads as it did. -/
def fnJEscapeSpec : ChangeSpec := { name := "fnJEscape", fn := fun _ => fun
  | [d] => { results := [.lit (.bool true)], args := [d] }
  | _ => none }
def fnJEscapeRow : OpenClaim := { program := "ytdjmjgdafghdgaa", sum := "604d58b656bb542c9bf7447cd2b25e9e65e8e5978c1a8602b6676218f8a23237", func := "given.example/pub-querent/laws.FnJEscape", spec := "fnJEscape", apart := false }
def FnJEscapeSaid : Prop := fnJEscapeRow.holds Try.pinned (OpenSpec.ofChange fnJEscapeSpec)

/-- ITS FALSE NEIGHBOUR: 'it returns false'. Refute it at one input. -/
def fnJEscapeWrong : ChangeSpec := { name := "fnJEscape", fn := fun _ => fun
  | [d] => { results := [.lit (.bool false)], args := [d] }
  | _ => none }
def FnJEscapeWrongFalsely : Prop := fnJEscapeRow.holds Try.pinned (OpenSpec.ofChange fnJEscapeWrong)

/-- 'laws.FnJUnescape': WHATEVER THE INPUT: true; the input reads as it did. -/
def fnJUnescapeSpec : ChangeSpec := { name := "fnJUnescape", fn := fun _ => fun
  | [d] => { results := [.lit (.bool true)], args := [d] }
  | _ => none }
def fnJUnescapeRow : OpenClaim := { program := "ytdjmjgdafghdgaa", sum := "604d58b656bb542c9bf7447cd2b25e9e65e8e5978c1a8602b6676218f8a23237", func := "given.example/pub-querent/laws.FnJUnescape", spec := "fnJUnescape", inPlace := ["internal/bytealg.IndexByteString", "internal/abi.NoEscape"], apart := false }
def FnJUnescapeSaid : Prop := fnJUnescapeRow.holds Try.pinned (OpenSpec.ofChange fnJUnescapeSpec)

/-- ITS FALSE NEIGHBOUR: 'it returns false'. Refute it at one input. -/
def fnJUnescapeWrong : ChangeSpec := { name := "fnJUnescape", fn := fun _ => fun
  | [d] => { results := [.lit (.bool false)], args := [d] }
  | _ => none }
def FnJUnescapeWrongFalsely : Prop := fnJUnescapeRow.holds Try.pinned (OpenSpec.ofChange fnJUnescapeWrong)

/-- 'laws.FnJEscapeBack': WHATEVER THE INPUT: true; the input reads as it did. -/
def fnJEscapeBackSpec : ChangeSpec := { name := "fnJEscapeBack", fn := fun _ => fun
  | [d1, d2] => { results := [.lit (.bool true)], args := [d1, d2] }
  | _ => none }
def fnJEscapeBackRow : OpenClaim := { program := "ytdjmjgdafghdgaa", sum := "604d58b656bb542c9bf7447cd2b25e9e65e8e5978c1a8602b6676218f8a23237", func := "given.example/pub-querent/laws.FnJEscapeBack", spec := "fnJEscapeBack", inPlace := ["internal/bytealg.IndexByteString", "internal/abi.NoEscape"], apart := false }
def FnJEscapeBackSaid : Prop := fnJEscapeBackRow.holds Try.pinned (OpenSpec.ofChange fnJEscapeBackSpec)

/-- ITS FALSE NEIGHBOUR: 'it returns false'. Refute it at one input. -/
def fnJEscapeBackWrong : ChangeSpec := { name := "fnJEscapeBack", fn := fun _ => fun
  | [d1, d2] => { results := [.lit (.bool false)], args := [d1, d2] }
  | _ => none }
def FnJEscapeBackWrongFalsely : Prop := fnJEscapeBackRow.holds Try.pinned (OpenSpec.ofChange fnJEscapeBackWrong)

/-- 'laws.FnJPointer': WHATEVER THE INPUT: true; the input reads as it did. -/
def fnJPointerSpec : ChangeSpec := { name := "fnJPointer", fn := fun _ => fun
  | [d] => { results := [.lit (.bool true)], args := [d] }
  | _ => none }
def fnJPointerRow : OpenClaim := { program := "ytdjmjgdafghdgaa", sum := "604d58b656bb542c9bf7447cd2b25e9e65e8e5978c1a8602b6676218f8a23237", func := "given.example/pub-querent/laws.FnJPointer", spec := "fnJPointer", apart := false }
def FnJPointerSaid : Prop := fnJPointerRow.holds Try.pinned (OpenSpec.ofChange fnJPointerSpec)

/-- ITS FALSE NEIGHBOUR: 'it returns false'. Refute it at one input. -/
def fnJPointerWrong : ChangeSpec := { name := "fnJPointer", fn := fun _ => fun
  | [d] => { results := [.lit (.bool false)], args := [d] }
  | _ => none }
def FnJPointerWrongFalsely : Prop := fnJPointerRow.holds Try.pinned (OpenSpec.ofChange fnJPointerWrong)

/-- 'laws.FnJPointerJoin': WHATEVER THE INPUT: true; the input reads as it did. -/
def fnJPointerJoinSpec : ChangeSpec := { name := "fnJPointerJoin", fn := fun _ => fun
  | [d1, d2, d3] => { results := [.lit (.bool true)], args := [d1, d2, d3] }
  | _ => none }
def fnJPointerJoinRow : OpenClaim := { program := "ytdjmjgdafghdgaa", sum := "604d58b656bb542c9bf7447cd2b25e9e65e8e5978c1a8602b6676218f8a23237", func := "given.example/pub-querent/laws.FnJPointerJoin", spec := "fnJPointerJoin", apart := false }
def FnJPointerJoinSaid : Prop := fnJPointerJoinRow.holds Try.pinned (OpenSpec.ofChange fnJPointerJoinSpec)

/-- ITS FALSE NEIGHBOUR: 'it returns false'. Refute it at one input. -/
def fnJPointerJoinWrong : ChangeSpec := { name := "fnJPointerJoin", fn := fun _ => fun
  | [d1, d2, d3] => { results := [.lit (.bool false)], args := [d1, d2, d3] }
  | _ => none }
def FnJPointerJoinWrongFalsely : Prop := fnJPointerJoinRow.holds Try.pinned (OpenSpec.ofChange fnJPointerJoinWrong)

/-- 'laws.FnJRelative': WHATEVER THE INPUT: true; the input reads as it did. -/
def fnJRelativeSpec : ChangeSpec := { name := "fnJRelative", fn := fun _ => fun
  | [d] => { results := [.lit (.bool true)], args := [d] }
  | _ => none }
def fnJRelativeRow : OpenClaim := { program := "ytdjmjgdafghdgaa", sum := "604d58b656bb542c9bf7447cd2b25e9e65e8e5978c1a8602b6676218f8a23237", func := "given.example/pub-querent/laws.FnJRelative", spec := "fnJRelative", apart := false }
def FnJRelativeSaid : Prop := fnJRelativeRow.holds Try.pinned (OpenSpec.ofChange fnJRelativeSpec)

/-- ITS FALSE NEIGHBOUR: 'it returns false'. Refute it at one input. -/
def fnJRelativeWrong : ChangeSpec := { name := "fnJRelative", fn := fun _ => fun
  | [d] => { results := [.lit (.bool false)], args := [d] }
  | _ => none }
def FnJRelativeWrongFalsely : Prop := fnJRelativeRow.holds Try.pinned (OpenSpec.ofChange fnJRelativeWrong)

/-- 'laws.FnJRelativeParts': WHATEVER THE INPUT: true; the input reads as it did. -/
def fnJRelativePartsSpec : ChangeSpec := { name := "fnJRelativeParts", fn := fun _ => fun
  | [d1, d2] => { results := [.lit (.bool true)], args := [d1, d2] }
  | _ => none }
def fnJRelativePartsRow : OpenClaim := { program := "ytdjmjgdafghdgaa", sum := "604d58b656bb542c9bf7447cd2b25e9e65e8e5978c1a8602b6676218f8a23237", func := "given.example/pub-querent/laws.FnJRelativeParts", spec := "fnJRelativeParts", apart := false }
def FnJRelativePartsSaid : Prop := fnJRelativePartsRow.holds Try.pinned (OpenSpec.ofChange fnJRelativePartsSpec)

/-- ITS FALSE NEIGHBOUR: 'it returns false'. Refute it at one input. -/
def fnJRelativePartsWrong : ChangeSpec := { name := "fnJRelativeParts", fn := fun _ => fun
  | [d1, d2] => { results := [.lit (.bool false)], args := [d1, d2] }
  | _ => none }
def FnJRelativePartsWrongFalsely : Prop := fnJRelativePartsRow.holds Try.pinned (OpenSpec.ofChange fnJRelativePartsWrong)

/-- 'laws.FnJUUID': WHATEVER THE INPUT: true; the input reads as it did. -/
def fnJUUIDSpec : ChangeSpec := { name := "fnJUUID", fn := fun _ => fun
  | [d] => { results := [.lit (.bool true)], args := [d] }
  | _ => none }
def fnJUUIDRow : OpenClaim := { program := "ytdjmjgdafghdgaa", sum := "604d58b656bb542c9bf7447cd2b25e9e65e8e5978c1a8602b6676218f8a23237", func := "given.example/pub-querent/laws.FnJUUID", spec := "fnJUUID", apart := false }
def FnJUUIDSaid : Prop := fnJUUIDRow.holds Try.pinned (OpenSpec.ofChange fnJUUIDSpec)

/-- ITS FALSE NEIGHBOUR: 'it returns false'. Refute it at one input. -/
def fnJUUIDWrong : ChangeSpec := { name := "fnJUUID", fn := fun _ => fun
  | [d] => { results := [.lit (.bool false)], args := [d] }
  | _ => none }
def FnJUUIDWrongFalsely : Prop := fnJUUIDRow.holds Try.pinned (OpenSpec.ofChange fnJUUIDWrong)

/-- 'laws.FnJSemver': WHATEVER THE INPUT: true; the input reads as it did. -/
def fnJSemverSpec : ChangeSpec := { name := "fnJSemver", fn := fun _ => fun
  | [d] => { results := [.lit (.bool true)], args := [d] }
  | _ => none }
def fnJSemverRow : OpenClaim := { program := "ytdjmjgdafghdgaa", sum := "604d58b656bb542c9bf7447cd2b25e9e65e8e5978c1a8602b6676218f8a23237", func := "given.example/pub-querent/laws.FnJSemver", spec := "fnJSemver", inPlace := ["internal/bytealg.IndexByteString"], apart := false }
def FnJSemverSaid : Prop := fnJSemverRow.holds Try.pinned (OpenSpec.ofChange fnJSemverSpec)

/-- ITS FALSE NEIGHBOUR: 'it returns false'. Refute it at one input. -/
def fnJSemverWrong : ChangeSpec := { name := "fnJSemver", fn := fun _ => fun
  | [d] => { results := [.lit (.bool false)], args := [d] }
  | _ => none }
def FnJSemverWrongFalsely : Prop := fnJSemverRow.holds Try.pinned (OpenSpec.ofChange fnJSemverWrong)

/-- 'laws.FnJHostname': WHATEVER THE INPUT: true; the input reads as it did. -/
def fnJHostnameSpec : ChangeSpec := { name := "fnJHostname", fn := fun _ => fun
  | [d] => { results := [.lit (.bool true)], args := [d] }
  | _ => none }
def fnJHostnameRow : OpenClaim := { program := "ytdjmjgdafghdgaa", sum := "604d58b656bb542c9bf7447cd2b25e9e65e8e5978c1a8602b6676218f8a23237", func := "given.example/pub-querent/laws.FnJHostname", spec := "fnJHostname", apart := false }
def FnJHostnameSaid : Prop := fnJHostnameRow.holds Try.pinned (OpenSpec.ofChange fnJHostnameSpec)

/-- ITS FALSE NEIGHBOUR: 'it returns false'. Refute it at one input. -/
def fnJHostnameWrong : ChangeSpec := { name := "fnJHostname", fn := fun _ => fun
  | [d] => { results := [.lit (.bool false)], args := [d] }
  | _ => none }
def FnJHostnameWrongFalsely : Prop := fnJHostnameRow.holds Try.pinned (OpenSpec.ofChange fnJHostnameWrong)

/-- 'laws.FnJHostnameJoin': WHATEVER THE INPUT: true; the input reads as it did. -/
def fnJHostnameJoinSpec : ChangeSpec := { name := "fnJHostnameJoin", fn := fun _ => fun
  | [d1, d2] => { results := [.lit (.bool true)], args := [d1, d2] }
  | _ => none }
def fnJHostnameJoinRow : OpenClaim := { program := "ytdjmjgdafghdgaa", sum := "604d58b656bb542c9bf7447cd2b25e9e65e8e5978c1a8602b6676218f8a23237", func := "given.example/pub-querent/laws.FnJHostnameJoin", spec := "fnJHostnameJoin", apart := false }
def FnJHostnameJoinSaid : Prop := fnJHostnameJoinRow.holds Try.pinned (OpenSpec.ofChange fnJHostnameJoinSpec)

/-- ITS FALSE NEIGHBOUR: 'it returns false'. Refute it at one input. -/
def fnJHostnameJoinWrong : ChangeSpec := { name := "fnJHostnameJoin", fn := fun _ => fun
  | [d1, d2] => { results := [.lit (.bool false)], args := [d1, d2] }
  | _ => none }
def FnJHostnameJoinWrongFalsely : Prop := fnJHostnameJoinRow.holds Try.pinned (OpenSpec.ofChange fnJHostnameJoinWrong)

/-- 'laws.FnJDuration': WHATEVER THE INPUT: true; the input reads as it did. -/
def fnJDurationSpec : ChangeSpec := { name := "fnJDuration", fn := fun _ => fun
  | [d] => { results := [.lit (.bool true)], args := [d] }
  | _ => none }
def fnJDurationRow : OpenClaim := { program := "ytdjmjgdafghdgaa", sum := "604d58b656bb542c9bf7447cd2b25e9e65e8e5978c1a8602b6676218f8a23237", func := "given.example/pub-querent/laws.FnJDuration", spec := "fnJDuration", inPlace := ["internal/bytealg.IndexByteString"], apart := false }
def FnJDurationSaid : Prop := fnJDurationRow.holds Try.pinned (OpenSpec.ofChange fnJDurationSpec)

/-- ITS FALSE NEIGHBOUR: 'it returns false'. Refute it at one input. -/
def fnJDurationWrong : ChangeSpec := { name := "fnJDuration", fn := fun _ => fun
  | [d] => { results := [.lit (.bool false)], args := [d] }
  | _ => none }
def FnJDurationWrongFalsely : Prop := fnJDurationRow.holds Try.pinned (OpenSpec.ofChange fnJDurationWrong)

/- THE SECOND FORM. 'bulk': how many values and letters a reading holds, each counted each time it is reached (what is shared counts as often as it is met; a slice's spare places count too). A statement '..UptoSaid' is the law's where the arguments, and the package variables that the reading takes, are together of bulk at most 1048576: NARROWER than '..Said'. Prove '..Said' where nothing that the law and all that it calls make is longer than what came in: it says more and counts as full. Else prove '..UptoSaid'. A law counts once. -/
mutual
def uptoBulk {H : Type} : DataW H → Nat
  | .lit (.string bytes) => bytes.length + 1
  | .lit _ => 1
  | .nil => 1
  | .ptr d => uptoBulk d + 1
  | .slice elems spare => uptoBulkAll elems + uptoBulkAll spare + 1
  | .agg parts => uptoBulkAll parts + 1
  | .iface _ d => uptoBulk d + 1
  | .map entries => uptoBulkEntries entries + 1
  | .held _ => 1
def uptoBulkAll {H : Type} : List (DataW H) → Nat
  | [] => 0
  | d :: r => uptoBulk d + uptoBulkAll r
def uptoBulkEntries {H : Type} : List (Lit × DataW H) → Nat
  | [] => 0
  | x :: r => uptoBulkEntry x + uptoBulkEntries r
def uptoBulkEntry {H : Type} : Lit × DataW H → Nat
  | (.string bytes, d) => bytes.length + uptoBulk d + 1
  | (_, d) => uptoBulk d + 1
 end
def uptoSmall : (H : Type) → List (DataW H) → Bool := fun _ ds => decide (uptoBulkAll ds ≤ 1048576)
def OpenSpec.upto (s : _root_.Go.ChangeSpec) : _root_.Go.OpenSpec := { _root_.Go.OpenSpec.ofChange s with cond := some uptoSmall }

/-- 'laws.FnJEscape', WHERE WHAT IT READS IS OF BULK AT MOST 1048576: true; the input reads as it did. -/
def fnJEscapeUptoRow : OpenClaim := { program := "ytdjmjgdafghdgaa", sum := "604d58b656bb542c9bf7447cd2b25e9e65e8e5978c1a8602b6676218f8a23237", func := "given.example/pub-querent/laws.FnJEscape", spec := "fnJEscape", apart := false, narrowed := true }
def FnJEscapeUptoSaid : Prop := fnJEscapeUptoRow.holds Try.pinned (OpenSpec.upto fnJEscapeSpec)

/-- 'laws.FnJUnescape', WHERE WHAT IT READS IS OF BULK AT MOST 1048576: true; the input reads as it did. -/
def fnJUnescapeUptoRow : OpenClaim := { program := "ytdjmjgdafghdgaa", sum := "604d58b656bb542c9bf7447cd2b25e9e65e8e5978c1a8602b6676218f8a23237", func := "given.example/pub-querent/laws.FnJUnescape", spec := "fnJUnescape", inPlace := ["internal/bytealg.IndexByteString", "internal/abi.NoEscape"], apart := false, narrowed := true }
def FnJUnescapeUptoSaid : Prop := fnJUnescapeUptoRow.holds Try.pinned (OpenSpec.upto fnJUnescapeSpec)

/-- 'laws.FnJEscapeBack', WHERE WHAT IT READS IS OF BULK AT MOST 1048576: true; the input reads as it did. -/
def fnJEscapeBackUptoRow : OpenClaim := { program := "ytdjmjgdafghdgaa", sum := "604d58b656bb542c9bf7447cd2b25e9e65e8e5978c1a8602b6676218f8a23237", func := "given.example/pub-querent/laws.FnJEscapeBack", spec := "fnJEscapeBack", inPlace := ["internal/bytealg.IndexByteString", "internal/abi.NoEscape"], apart := false, narrowed := true }
def FnJEscapeBackUptoSaid : Prop := fnJEscapeBackUptoRow.holds Try.pinned (OpenSpec.upto fnJEscapeBackSpec)

/-- 'laws.FnJPointer', WHERE WHAT IT READS IS OF BULK AT MOST 1048576: true; the input reads as it did. -/
def fnJPointerUptoRow : OpenClaim := { program := "ytdjmjgdafghdgaa", sum := "604d58b656bb542c9bf7447cd2b25e9e65e8e5978c1a8602b6676218f8a23237", func := "given.example/pub-querent/laws.FnJPointer", spec := "fnJPointer", apart := false, narrowed := true }
def FnJPointerUptoSaid : Prop := fnJPointerUptoRow.holds Try.pinned (OpenSpec.upto fnJPointerSpec)

/-- 'laws.FnJPointerJoin', WHERE WHAT IT READS IS OF BULK AT MOST 1048576: true; the input reads as it did. -/
def fnJPointerJoinUptoRow : OpenClaim := { program := "ytdjmjgdafghdgaa", sum := "604d58b656bb542c9bf7447cd2b25e9e65e8e5978c1a8602b6676218f8a23237", func := "given.example/pub-querent/laws.FnJPointerJoin", spec := "fnJPointerJoin", apart := false, narrowed := true }
def FnJPointerJoinUptoSaid : Prop := fnJPointerJoinUptoRow.holds Try.pinned (OpenSpec.upto fnJPointerJoinSpec)

/-- 'laws.FnJRelative', WHERE WHAT IT READS IS OF BULK AT MOST 1048576: true; the input reads as it did. -/
def fnJRelativeUptoRow : OpenClaim := { program := "ytdjmjgdafghdgaa", sum := "604d58b656bb542c9bf7447cd2b25e9e65e8e5978c1a8602b6676218f8a23237", func := "given.example/pub-querent/laws.FnJRelative", spec := "fnJRelative", apart := false, narrowed := true }
def FnJRelativeUptoSaid : Prop := fnJRelativeUptoRow.holds Try.pinned (OpenSpec.upto fnJRelativeSpec)

/-- 'laws.FnJRelativeParts', WHERE WHAT IT READS IS OF BULK AT MOST 1048576: true; the input reads as it did. -/
def fnJRelativePartsUptoRow : OpenClaim := { program := "ytdjmjgdafghdgaa", sum := "604d58b656bb542c9bf7447cd2b25e9e65e8e5978c1a8602b6676218f8a23237", func := "given.example/pub-querent/laws.FnJRelativeParts", spec := "fnJRelativeParts", apart := false, narrowed := true }
def FnJRelativePartsUptoSaid : Prop := fnJRelativePartsUptoRow.holds Try.pinned (OpenSpec.upto fnJRelativePartsSpec)

/-- 'laws.FnJUUID', WHERE WHAT IT READS IS OF BULK AT MOST 1048576: true; the input reads as it did. -/
def fnJUUIDUptoRow : OpenClaim := { program := "ytdjmjgdafghdgaa", sum := "604d58b656bb542c9bf7447cd2b25e9e65e8e5978c1a8602b6676218f8a23237", func := "given.example/pub-querent/laws.FnJUUID", spec := "fnJUUID", apart := false, narrowed := true }
def FnJUUIDUptoSaid : Prop := fnJUUIDUptoRow.holds Try.pinned (OpenSpec.upto fnJUUIDSpec)

/-- 'laws.FnJSemver', WHERE WHAT IT READS IS OF BULK AT MOST 1048576: true; the input reads as it did. -/
def fnJSemverUptoRow : OpenClaim := { program := "ytdjmjgdafghdgaa", sum := "604d58b656bb542c9bf7447cd2b25e9e65e8e5978c1a8602b6676218f8a23237", func := "given.example/pub-querent/laws.FnJSemver", spec := "fnJSemver", inPlace := ["internal/bytealg.IndexByteString"], apart := false, narrowed := true }
def FnJSemverUptoSaid : Prop := fnJSemverUptoRow.holds Try.pinned (OpenSpec.upto fnJSemverSpec)

/-- 'laws.FnJHostname', WHERE WHAT IT READS IS OF BULK AT MOST 1048576: true; the input reads as it did. -/
def fnJHostnameUptoRow : OpenClaim := { program := "ytdjmjgdafghdgaa", sum := "604d58b656bb542c9bf7447cd2b25e9e65e8e5978c1a8602b6676218f8a23237", func := "given.example/pub-querent/laws.FnJHostname", spec := "fnJHostname", apart := false, narrowed := true }
def FnJHostnameUptoSaid : Prop := fnJHostnameUptoRow.holds Try.pinned (OpenSpec.upto fnJHostnameSpec)

/-- 'laws.FnJHostnameJoin', WHERE WHAT IT READS IS OF BULK AT MOST 1048576: true; the input reads as it did. -/
def fnJHostnameJoinUptoRow : OpenClaim := { program := "ytdjmjgdafghdgaa", sum := "604d58b656bb542c9bf7447cd2b25e9e65e8e5978c1a8602b6676218f8a23237", func := "given.example/pub-querent/laws.FnJHostnameJoin", spec := "fnJHostnameJoin", apart := false, narrowed := true }
def FnJHostnameJoinUptoSaid : Prop := fnJHostnameJoinUptoRow.holds Try.pinned (OpenSpec.upto fnJHostnameJoinSpec)

/-- 'laws.FnJDuration', WHERE WHAT IT READS IS OF BULK AT MOST 1048576: true; the input reads as it did. -/
def fnJDurationUptoRow : OpenClaim := { program := "ytdjmjgdafghdgaa", sum := "604d58b656bb542c9bf7447cd2b25e9e65e8e5978c1a8602b6676218f8a23237", func := "given.example/pub-querent/laws.FnJDuration", spec := "fnJDuration", inPlace := ["internal/bytealg.IndexByteString"], apart := false, narrowed := true }
def FnJDurationUptoSaid : Prop := fnJDurationUptoRow.holds Try.pinned (OpenSpec.upto fnJDurationSpec)

end Rows
end Go.Proofs.Ytdjmjgdafghdgaa
