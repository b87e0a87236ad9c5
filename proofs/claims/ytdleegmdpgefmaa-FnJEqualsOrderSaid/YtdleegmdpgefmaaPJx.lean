-- PRINTED by print.py (a twelfth state) out of the translation. Not trusted: Lean checks it.
import Derived.Test.YtdleegmdpgefmaaPJx0
import Derived.Test.YtdleegmdpgefmaaPJx1
import Derived.Test.YtdleegmdpgefmaaPJx2
import Derived.Test.YtdleegmdpgefmaaPJx3
import Derived.Test.YtdleegmdpgefmaaPJx4
namespace Go.Proofs.Ytdleegmdpgefmaa.PJ
open Go.RowKit Go.Proofs.YtdleegmdpgefmaaW.PrintWords Go.Proofs.YtdleegmdpgefmaaW.PrintLast Go.Proofs.YtdleegmdpgefmaaW.PrintMore
attribute [local go_sem] max2_int min2_int max_two min_two max_three min_three max_four min_four   -- for this text's walks alone
set_option linter.unusedVariables false
set_option linter.unusedSimpArgs false

end Go.Proofs.Ytdleegmdpgefmaa.PJ
