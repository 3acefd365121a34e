-- printed by a program of this session (gprint.py) out of the translation; Lean checks it
import Derived.Test.YtphnnbbgcnilgaaProg
import Derived.Below
import Derived.Deep.Draws
import Derived.Deep.AppendLies
import Derived.Maps.AppendAt
import Derived.OwnWalk
import Derived.Laws.BytesArg
import Derived.Laws.MakeOwn
import Derived.Laws.OwnMore
import Derived.Deep.OwnRows
import Derived.Tactics
import Derived.Lib.ConvBytes
import Derived.Laws.Slices
import Derived.WalkKit
import Derived.KernelRfl
import Derived.RowKit3
import Derived.Deep.LoopGhost
import Derived.Deep.QuietTactic
import Derived.BigQuiet
import Derived.WideLaws
import Derived.Deep.DeepCutAuto
import Derived.Deep.CutBlock
import Derived.Deep.RegionHeld3
import Derived.Laws.Rows
import Derived.Lib.AppendStr
import Derived.ArgAppend
import Derived.Laws.IdiomCopy
import Derived.OrdersHeld
import Derived.Laws.BitsLemmas
import Derived.RowKit
import Derived.Test.YtphnnbbgcnilgaaWWords
import Derived.Test.YtphnnbbgcnilgaaWLast
import Derived.Test.YtphnnbbgcnilgaaWTab
import Derived.Test.YtphnnbbgcnilgaaWFour
import Derived.Test.YtphnnbbgcnilgaaWQPut
import Derived.Test.YtphnnbbgcnilgaaWApart
import Derived.Test.YtphnnbbgcnilgaaWArr
import Derived.Test.YtphnnbbgcnilgaaWZeros
import Derived.Test.YtphnnbbgcnilgaaWFoot
import Derived.Test.YtphnnbbgcnilgaaWKept
import Derived.Test.YtphnnbbgcnilgaaWShare
import Derived.Test.YtphnnbbgcnilgaaWN
import Derived.Test.YtphnnbbgcnilgaaWFootNe
import Derived.Test.YtphnnbbgcnilgaaWAt
import Derived.Test.YtphnnbbgcnilgaaWEqStruct
import Derived.Test.YtphnnbbgcnilgaaWRepsOne
import Derived.Test.YtphnnbbgcnilgaaWInv
import Derived.Test.YtphnnbbgcnilgaaWInvWords
import Derived.Test.YtphnnbbgcnilgaaWGuard
import Derived.Test.YtphnnbbgcnilgaaWNEv
import Derived.Test.YtphnnbbgcnilgaaWMore
namespace Go.Proofs.Ytphnnbbgcnilgaa.GEL
open Go.Proofs.YtphnnbbgcnilgaaW.PrintWords Go.Proofs.YtphnnbbgcnilgaaW.PrintLast Go.Proofs.YtphnnbbgcnilgaaW.PrintMore
attribute [local go_sem] max2_int min2_int max_two min_two max_three min_three max_four min_four   -- for this text's walks alone
set_option linter.unusedVariables false
set_option linter.unusedSimpArgs false



def errW : Option Int → Value
  | none => .nilIface
  | some c => .iface 0 (.int .i64 c)
theorem errW_none : errW none = .nilIface := rfl
theorem errW_some (c : Int) : errW (some c) = .iface 0 (.int .i64 c) := rfl

theorem info5 : (Try.prog.info? 5).map (fun i => (i.zero, i.size, i.bytes)) = some (some (.int .u8 0), 1, 1) := by kernel_rfl
-- the values' own types

end Go.Proofs.Ytphnnbbgcnilgaa.GEL
