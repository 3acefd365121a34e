-- printed by a program of this session (gprint.py) out of the translation; Lean checks it
import Derived.Test.YtphnnbbgcnilgaaDoorGELx0
import Derived.Test.YtphnnbbgcnilgaaDoorGELx1
namespace Go.Proofs.YtphnnbbgcnilgaaDoor.GEL
open Go.RowKit Go.Proofs.YtphnnbbgcnilgaaDoorW.PrintWords Go.Proofs.YtphnnbbgcnilgaaDoorW.PrintLast Go.RowKit Go.Proofs.YtphnnbbgcnilgaaDoorW.PrintMore
attribute [local go_sem] max2_int min2_int max_two min_two max_three min_three max_four min_four   -- for this text's walks alone
set_option linter.unusedVariables false
set_option linter.unusedSimpArgs false

end Go.Proofs.YtphnnbbgcnilgaaDoor.GEL
