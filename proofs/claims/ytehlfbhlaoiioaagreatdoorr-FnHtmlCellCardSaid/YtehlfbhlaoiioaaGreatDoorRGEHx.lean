-- printed by a program of this session (gprint.py) out of the translation; Lean checks it
import Derived.Test.YtehlfbhlaoiioaaGreatDoorRGEHx0
import Derived.Test.YtehlfbhlaoiioaaGreatDoorRGEHx1
namespace Go.Proofs.YtehlfbhlaoiioaaGreatDoorR.GEH
open Go.RowKit Go.Proofs.YtehlfbhlaoiioaaGreatDoorRW.PrintWords Go.Proofs.YtehlfbhlaoiioaaGreatDoorRW.PrintLast Go.Proofs.YtehlfbhlaoiioaaGreatDoorRW.PrintMore
attribute [local go_sem] max2_int min2_int max_two min_two max_three min_three max_four min_four   -- for this text's walks alone
set_option linter.unusedVariables false
set_option linter.unusedSimpArgs false

end Go.Proofs.YtehlfbhlaoiioaaGreatDoorR.GEH
