-- printed by a program of this session (gprint.py) out of the translation; Lean checks it
import Derived.Test.YtkfkhafmgndgaaaRRDoorGFnTextStripx0
import Derived.Test.YtkfkhafmgndgaaaRRDoorGFnTextStripx1
import Derived.Test.YtkfkhafmgndgaaaRRDoorGFnTextStripx2
import Derived.Test.YtkfkhafmgndgaaaRRDoorGFnTextStripx3
namespace Go.Proofs.YtkfkhafmgndgaaaRRDoor.GFnTextStrip
open Go.RowKit Go.Proofs.YtkfkhafmgndgaaaRRDoorW.PrintWords Go.Proofs.YtkfkhafmgndgaaaRRDoorW.PrintLast Go.Proofs.YtkfkhafmgndgaaaRRDoor.Given Go.Proofs.YtkfkhafmgndgaaaRRDoorW.PrintMore
attribute [local go_sem] max2_int min2_int max_two min_two max_three min_three max_four min_four   -- for this text's walks alone
set_option linter.unusedVariables false
set_option linter.unusedSimpArgs false

end Go.Proofs.YtkfkhafmgndgaaaRRDoor.GFnTextStrip
