-- printed by a program of this session (gprint.py) out of the translation; Lean checks it
import Derived.Test.YtapbnbinoakbhaaDoorProg
import Derived.Below
import Derived.Deep.Draws
import Derived.Deep.AppendLies
import Derived.Maps.AppendAt
import Derived.OwnWalk
import Derived.Laws.BytesArg
import Derived.Laws.MakeOwn
import Derived.Laws.OwnMore
import Derived.Deep.OwnRows
import Derived.Tactics
import Derived.Lib.ConvBytes
import Derived.Laws.Slices
import Derived.WalkKit
import Derived.KernelRfl
import Derived.RowKit3
import Derived.Deep.LoopGhost
import Derived.Deep.QuietTactic
import Derived.BigQuiet
import Derived.WideLaws
import Derived.Deep.DeepCutAuto
import Derived.Deep.CutBlock
import Derived.Deep.RegionHeld3
import Derived.Laws.Rows
import Derived.Lib.AppendStr
import Derived.ArgAppend
import Derived.Laws.IdiomCopy
import Derived.OrdersHeld
import Derived.Laws.BitsLemmas
import Derived.RowKit
import Derived.Test.YtapbnbinoakbhaaDoorWWords
import Derived.Test.YtapbnbinoakbhaaDoorWLast
import Derived.Test.YtapbnbinoakbhaaDoorWTab
import Derived.Test.YtapbnbinoakbhaaDoorWFour
import Derived.Test.YtapbnbinoakbhaaDoorWQPut
import Derived.Test.YtapbnbinoakbhaaDoorWApart
import Derived.Test.YtapbnbinoakbhaaDoorWArr
import Derived.Test.YtapbnbinoakbhaaDoorWZeros
import Derived.Test.YtapbnbinoakbhaaDoorWFoot
import Derived.Test.YtapbnbinoakbhaaDoorWKept
import Derived.Test.YtapbnbinoakbhaaDoorWShare
import Derived.Test.YtapbnbinoakbhaaDoorWN
import Derived.Test.YtapbnbinoakbhaaDoorWFootNe
import Derived.Test.YtapbnbinoakbhaaDoorWAt
import Derived.Test.YtapbnbinoakbhaaDoorWEqStruct
import Derived.Test.YtapbnbinoakbhaaDoorWRepsOne
import Derived.Test.YtapbnbinoakbhaaDoorWInv
import Derived.Test.YtapbnbinoakbhaaDoorWInvWords
import Derived.Test.YtapbnbinoakbhaaDoorWGuard
import Derived.Test.YtapbnbinoakbhaaDoorWNEv
import Derived.Test.YtapbnbinoakbhaaDoorWMore
namespace Go.Proofs.YtapbnbinoakbhaaDoor.GET
open Go.RowKit Go.Proofs.YtapbnbinoakbhaaDoorW.PrintWords Go.Proofs.YtapbnbinoakbhaaDoorW.PrintLast Go.Proofs.YtapbnbinoakbhaaDoorW.PrintMore
attribute [local go_sem] max2_int min2_int max_two min_two max_three min_three max_four min_four   -- for this text's walks alone
set_option linter.unusedVariables false
set_option linter.unusedSimpArgs false



def errW : Option Int → Value
  | none => .nilIface
  | some c => .iface 0 (.int .i64 c)
theorem errW_none : errW none = .nilIface := rfl
theorem errW_some (c : Int) : errW (some c) = .iface 0 (.int .i64 c) := rfl

-- the values' own types

end Go.Proofs.YtapbnbinoakbhaaDoor.GET
