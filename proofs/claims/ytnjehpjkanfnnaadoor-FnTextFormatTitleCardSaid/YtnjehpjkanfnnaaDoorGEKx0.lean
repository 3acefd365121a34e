-- printed by a program of this session (gprint.py) out of the translation; Lean checks it
import Derived.Test.YtnjehpjkanfnnaaDoorProg
import Derived.Below
import Derived.Deep.Draws
import Derived.Deep.AppendLies
import Derived.Maps.AppendAt
import Derived.OwnWalk
import Derived.Laws.BytesArg
import Derived.Laws.MakeOwn
import Derived.Laws.OwnMore
import Derived.Deep.OwnRows
import Derived.Tactics
import Derived.Lib.ConvBytes
import Derived.Laws.Slices
import Derived.WalkKit
import Derived.KernelRfl
import Derived.RowKit3
import Derived.Deep.LoopGhost
import Derived.Deep.QuietTactic
import Derived.BigQuiet
import Derived.WideLaws
import Derived.Deep.DeepCutAuto
import Derived.Deep.CutBlock
import Derived.Deep.RegionHeld3
import Derived.Laws.Rows
import Derived.Lib.AppendStr
import Derived.ArgAppend
import Derived.Laws.IdiomCopy
import Derived.OrdersHeld
import Derived.Laws.BitsLemmas
import Derived.RowKit
import Derived.Test.YtnjehpjkanfnnaaDoorWWords
import Derived.Test.YtnjehpjkanfnnaaDoorWLast
import Derived.Test.YtnjehpjkanfnnaaDoorWTab
import Derived.Test.YtnjehpjkanfnnaaDoorWFour
import Derived.Test.YtnjehpjkanfnnaaDoorWQPut
import Derived.Test.YtnjehpjkanfnnaaDoorWApart
import Derived.Test.YtnjehpjkanfnnaaDoorWArr
import Derived.Test.YtnjehpjkanfnnaaDoorWZeros
import Derived.Test.YtnjehpjkanfnnaaDoorWFoot
import Derived.Test.YtnjehpjkanfnnaaDoorWKept
import Derived.Test.YtnjehpjkanfnnaaDoorWShare
import Derived.Test.YtnjehpjkanfnnaaDoorWN
import Derived.Test.YtnjehpjkanfnnaaDoorWFootNe
import Derived.Test.YtnjehpjkanfnnaaDoorWAt
import Derived.Test.YtnjehpjkanfnnaaDoorWEqStruct
import Derived.Test.YtnjehpjkanfnnaaDoorWRepsOne
import Derived.Test.YtnjehpjkanfnnaaDoorWInv
import Derived.Test.YtnjehpjkanfnnaaDoorWInvWords
import Derived.Test.YtnjehpjkanfnnaaDoorWGuard
import Derived.Test.YtnjehpjkanfnnaaDoorWNEv
import Derived.Test.YtnjehpjkanfnnaaDoorWMore
namespace Go.Proofs.YtnjehpjkanfnnaaDoor.GEK
open Go.Proofs.YtnjehpjkanfnnaaDoorW.PrintWords Go.Proofs.YtnjehpjkanfnnaaDoorW.PrintLast Go.Proofs.YtnjehpjkanfnnaaDoorW.PrintMore
attribute [local go_sem] max2_int min2_int max_two min_two max_three min_three max_four min_four   -- for this text's walks alone
set_option linter.unusedVariables false
set_option linter.unusedSimpArgs false



def errW : Option Int → Value
  | none => .nilIface
  | some c => .iface 0 (.int .i64 c)
theorem errW_none : errW none = .nilIface := rfl
theorem errW_some (c : Int) : errW (some c) = .iface 0 (.int .i64 c) := rfl

-- the values' own types

end Go.Proofs.YtnjehpjkanfnnaaDoor.GEK
