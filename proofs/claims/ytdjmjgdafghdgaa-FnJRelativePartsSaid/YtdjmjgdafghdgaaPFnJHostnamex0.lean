-- PRINTED BY print.sh 35421559b90ae4d0a3588c463048766b98c2df88dd9212a6774a882060cdf62d: not written by this session
import Derived.Test.YtdjmjgdafghdgaaProg
import Derived.Below
import Derived.Deep.Draws
import Derived.Deep.AppendLies
import Derived.Maps.AppendAt
import Derived.OwnWalk
import Derived.Laws.BytesArg
import Derived.Laws.MakeOwn
import Derived.Laws.OwnMore
import Derived.Deep.OwnRows
import Derived.Tactics
import Derived.Lib.ConvBytes
import Derived.Laws.Slices
import Derived.WalkKit
import Derived.KernelRfl
import Derived.RowKit3
import Derived.Deep.LoopGhost
import Derived.Deep.QuietTactic
import Derived.BigQuiet
import Derived.WideLaws
import Derived.Deep.DeepCutAuto
import Derived.Deep.CutBlock
import Derived.Deep.RegionHeld3
import Derived.Laws.Rows
import Derived.Lib.AppendStr
import Derived.ArgAppend
import Derived.Laws.IdiomCopy
import Derived.OrdersHeld
import Derived.Laws.BitsLemmas
import Derived.RowKit
import Derived.Test.YtdjmjgdafghdgaaWWords
import Derived.Test.YtdjmjgdafghdgaaWLast
import Derived.Test.YtdjmjgdafghdgaaWTab
import Derived.Test.YtdjmjgdafghdgaaWFour
import Derived.Test.YtdjmjgdafghdgaaWQPut
import Derived.Test.YtdjmjgdafghdgaaWApart
import Derived.Test.YtdjmjgdafghdgaaWArr
import Derived.Test.YtdjmjgdafghdgaaWZeros
import Derived.Test.YtdjmjgdafghdgaaWFoot
import Derived.Test.YtdjmjgdafghdgaaWKept
import Derived.Test.YtdjmjgdafghdgaaWShare
import Derived.Test.YtdjmjgdafghdgaaWN
import Derived.Test.YtdjmjgdafghdgaaWFootNe
import Derived.Test.YtdjmjgdafghdgaaWAt
import Derived.Test.YtdjmjgdafghdgaaWEqStruct
import Derived.Test.YtdjmjgdafghdgaaWRepsOne
import Derived.Test.YtdjmjgdafghdgaaWInv
import Derived.Test.YtdjmjgdafghdgaaWInvWords
import Derived.Test.YtdjmjgdafghdgaaWGuard
import Derived.Test.YtdjmjgdafghdgaaWNEv
import Derived.Test.YtdjmjgdafghdgaaWMore
namespace Go.Proofs.Ytdjmjgdafghdgaa.PFnJHostname
open Go.RowKit Go.Proofs.YtdjmjgdafghdgaaW.PrintWords Go.Proofs.YtdjmjgdafghdgaaW.PrintLast Go.Proofs.YtdjmjgdafghdgaaW.PrintMore
attribute [local go_sem] max2_int min2_int max_two min_two max_three min_three max_four min_four   -- for this text's walks alone
set_option linter.unusedVariables false
set_option linter.unusedSimpArgs false



def errW : Option Int → Value
  | none => .nilIface
  | some c => .iface 0 (.int .i64 c)
theorem errW_none : errW none = .nilIface := rfl
theorem errW_some (c : Int) : errW (some c) = .iface 0 (.int .i64 c) := rfl

theorem info9 : (Try.prog.info? 9).map (fun i => (i.zero, i.size, i.bytes)) = some (some (.string ⟨#[]⟩), 1, 16) := by kernel_rfl
-- the values' own types

end Go.Proofs.Ytdjmjgdafghdgaa.PFnJHostname
