-- PRINTED by print.py (a twelfth state) out of the translation. Not trusted: Lean checks it.
import Derived.Test.YtdleegmdpgefmaaDoorPJx0
import Derived.Test.YtdleegmdpgefmaaDoorPJx1
import Derived.Test.YtdleegmdpgefmaaDoorPJx2
import Derived.Test.YtdleegmdpgefmaaDoorPJx3
namespace Go.Proofs.YtdleegmdpgefmaaDoor.PJ
open Go.RowKit Go.Proofs.YtdleegmdpgefmaaDoorW.PrintWords Go.Proofs.YtdleegmdpgefmaaDoorW.PrintLast Go.Proofs.YtdleegmdpgefmaaDoorW.PrintMore
attribute [local go_sem] max2_int min2_int max_two min_two max_three min_three max_four min_four   -- for this text's walks alone
set_option linter.unusedVariables false
set_option linter.unusedSimpArgs false

end Go.Proofs.YtdleegmdpgefmaaDoor.PJ
