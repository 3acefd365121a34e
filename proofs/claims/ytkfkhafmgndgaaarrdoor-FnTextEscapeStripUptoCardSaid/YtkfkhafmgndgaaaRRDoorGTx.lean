-- printed by a program of this session (gprint.py) out of the translation; Lean checks it
import Derived.Test.YtkfkhafmgndgaaaRRDoorGTx0
import Derived.Test.YtkfkhafmgndgaaaRRDoorGTx1
import Derived.Test.YtkfkhafmgndgaaaRRDoorGTx2
import Derived.Test.YtkfkhafmgndgaaaRRDoorGTx3
import Derived.Test.YtkfkhafmgndgaaaRRDoorGTx4
namespace Go.Proofs.YtkfkhafmgndgaaaRRDoor.GT
open Go.RowKit Go.Proofs.YtkfkhafmgndgaaaRRDoorW.PrintWords Go.Proofs.YtkfkhafmgndgaaaRRDoorW.PrintLast Go.Proofs.YtkfkhafmgndgaaaRRDoor.Given Go.Proofs.YtkfkhafmgndgaaaRRDoor.Given2 Go.Proofs.YtkfkhafmgndgaaaRRDoorW.PrintMore
attribute [local go_sem] max2_int min2_int max_two min_two max_three min_three max_four min_four   -- for this text's walks alone
set_option linter.unusedVariables false
set_option linter.unusedSimpArgs false

end Go.Proofs.YtkfkhafmgndgaaaRRDoor.GT
