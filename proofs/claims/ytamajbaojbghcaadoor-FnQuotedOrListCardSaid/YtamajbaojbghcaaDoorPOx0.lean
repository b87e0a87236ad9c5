-- PRINTED by print.py (a twelfth state) out of the translation. Not trusted: Lean checks it.
import Derived.Test.YtamajbaojbghcaaDoorProg
import Derived.Below
import Derived.Deep.Draws
import Derived.Deep.AppendLies
import Derived.Maps.AppendAt
import Derived.OwnWalk
import Derived.Laws.BytesArg
import Derived.Laws.MakeOwn
import Derived.Laws.OwnMore
import Derived.Deep.OwnRows
import Derived.Tactics
import Derived.Lib.ConvBytes
import Derived.Laws.Slices
import Derived.WalkKit
import Derived.KernelRfl
import Derived.RowKit3
import Derived.Deep.LoopGhost
import Derived.Deep.QuietTactic
import Derived.BigQuiet
import Derived.WideLaws
import Derived.Deep.DeepCutAuto
import Derived.Deep.CutBlock
import Derived.Deep.RegionHeld3
import Derived.Laws.Rows
import Derived.Lib.AppendStr
import Derived.ArgAppend
import Derived.Laws.IdiomCopy
import Derived.OrdersHeld
import Derived.Laws.BitsLemmas
import Derived.RowKit
import Derived.Test.YtamajbaojbghcaaDoorWWords
import Derived.Test.YtamajbaojbghcaaDoorWLast
import Derived.Test.YtamajbaojbghcaaDoorWTab
import Derived.Test.YtamajbaojbghcaaDoorWFour
import Derived.Test.YtamajbaojbghcaaDoorWQPut
import Derived.Test.YtamajbaojbghcaaDoorWApart
import Derived.Test.YtamajbaojbghcaaDoorWArr
import Derived.Test.YtamajbaojbghcaaDoorWZeros
import Derived.Test.YtamajbaojbghcaaDoorWFoot
import Derived.Test.YtamajbaojbghcaaDoorWKept
import Derived.Test.YtamajbaojbghcaaDoorWShare
import Derived.Test.YtamajbaojbghcaaDoorWN
import Derived.Test.YtamajbaojbghcaaDoorWFootNe
import Derived.Test.YtamajbaojbghcaaDoorWAt
import Derived.Test.YtamajbaojbghcaaDoorWEqStruct
import Derived.Test.YtamajbaojbghcaaDoorWRepsOne
import Derived.Test.YtamajbaojbghcaaDoorWInv
import Derived.Test.YtamajbaojbghcaaDoorWInvWords
import Derived.Test.YtamajbaojbghcaaDoorWGuard
import Derived.Test.YtamajbaojbghcaaDoorWNEv
import Derived.Test.YtamajbaojbghcaaDoorWMore
namespace Go.Proofs.YtamajbaojbghcaaDoor.PO
open Go.RowKit Go.Proofs.YtamajbaojbghcaaDoorW.PrintWords Go.Proofs.YtamajbaojbghcaaDoorW.PrintLast Go.Proofs.YtamajbaojbghcaaDoorW.PrintMore
attribute [local go_sem] max2_int min2_int max_two min_two max_three min_three max_four min_four   -- for this text's walks alone
set_option linter.unusedVariables false
set_option linter.unusedSimpArgs false



def errW : Option Int → Value
  | none => .nilIface
  | some c => .iface 0 (.int .i64 c)
theorem errW_none : errW none = .nilIface := rfl
theorem errW_some (c : Int) : errW (some c) = .iface 0 (.int .i64 c) := rfl

theorem info9 : (Tryd.prog.info? 9).map (fun i => (i.zero, i.size, i.bytes)) = some (some (.string ⟨#[]⟩), 1, 16) := by kernel_rfl
-- the values' own types

end Go.Proofs.YtamajbaojbghcaaDoor.PO
