-- printed by a program of this session (gprint.py) out of the translation; Lean checks it
import Derived.Test.YtphnnbbgcnilgaaGELx0
import Derived.Test.YtphnnbbgcnilgaaGELx1
namespace Go.Proofs.Ytphnnbbgcnilgaa.GEL
open Go.RowKit Go.Proofs.YtphnnbbgcnilgaaW.PrintWords Go.Proofs.YtphnnbbgcnilgaaW.PrintLast Go.RowKit Go.Proofs.YtphnnbbgcnilgaaW.PrintMore
attribute [local go_sem] max2_int min2_int max_two min_two max_three min_three max_four min_four   -- for this text's walks alone
set_option linter.unusedVariables false
set_option linter.unusedSimpArgs false

end Go.Proofs.Ytphnnbbgcnilgaa.GEL
