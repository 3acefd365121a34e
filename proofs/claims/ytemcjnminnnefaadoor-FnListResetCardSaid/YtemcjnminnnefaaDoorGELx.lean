-- printed by a program of this session (gprint.py) out of the translation; Lean checks it
import Derived.Test.YtemcjnminnnefaaDoorGELx0
import Derived.Test.YtemcjnminnnefaaDoorGELx1
namespace Go.Proofs.YtemcjnminnnefaaDoor.GEL
open Go.RowKit Go.Proofs.YtemcjnminnnefaaDoorW.PrintWords Go.Proofs.YtemcjnminnnefaaDoorW.PrintLast Go.RowKit Go.Proofs.YtemcjnminnnefaaDoorW.PrintMore
attribute [local go_sem] max2_int min2_int max_two min_two max_three min_three max_four min_four   -- for this text's walks alone
set_option linter.unusedVariables false
set_option linter.unusedSimpArgs false

end Go.Proofs.YtemcjnminnnefaaDoor.GEL
