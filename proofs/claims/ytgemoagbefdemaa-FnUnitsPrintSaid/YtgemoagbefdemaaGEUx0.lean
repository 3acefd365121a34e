-- printed by a program of this session (gprint.py) out of the translation; Lean checks it
import Derived.Test.YtgemoagbefdemaaProg
import Derived.Below
import Derived.Deep.Draws
import Derived.Deep.AppendLies
import Derived.Maps.AppendAt
import Derived.OwnWalk
import Derived.Laws.BytesArg
import Derived.Laws.MakeOwn
import Derived.Laws.OwnMore
import Derived.Deep.OwnRows
import Derived.Tactics
import Derived.Lib.ConvBytes
import Derived.Laws.Slices
import Derived.WalkKit
import Derived.KernelRfl
import Derived.RowKit3
import Derived.Deep.LoopGhost
import Derived.Deep.QuietTactic
import Derived.BigQuiet
import Derived.WideLaws
import Derived.Deep.DeepCutAuto
import Derived.Deep.CutBlock
import Derived.Deep.RegionHeld3
import Derived.Laws.Rows
import Derived.Lib.AppendStr
import Derived.ArgAppend
import Derived.Laws.IdiomCopy
import Derived.OrdersHeld
import Derived.Laws.BitsLemmas
import Derived.RowKit
import Derived.Test.YtgemoagbefdemaaWWords
import Derived.Test.YtgemoagbefdemaaWLast
import Derived.Test.YtgemoagbefdemaaWTab
import Derived.Test.YtgemoagbefdemaaWFour
import Derived.Test.YtgemoagbefdemaaWQPut
import Derived.Test.YtgemoagbefdemaaWApart
import Derived.Test.YtgemoagbefdemaaWArr
import Derived.Test.YtgemoagbefdemaaWZeros
import Derived.Test.YtgemoagbefdemaaWFoot
import Derived.Test.YtgemoagbefdemaaWKept
import Derived.Test.YtgemoagbefdemaaWShare
import Derived.Test.YtgemoagbefdemaaWN
import Derived.Test.YtgemoagbefdemaaWFootNe
import Derived.Test.YtgemoagbefdemaaWAt
import Derived.Test.YtgemoagbefdemaaWEqStruct
import Derived.Test.YtgemoagbefdemaaWRepsOne
import Derived.Test.YtgemoagbefdemaaWInv
import Derived.Test.YtgemoagbefdemaaWInvWords
import Derived.Test.YtgemoagbefdemaaWGuard
import Derived.Test.YtgemoagbefdemaaWNEv
import Derived.Test.YtgemoagbefdemaaWMore
namespace Go.Proofs.Ytgemoagbefdemaa.GEU
open Go.Proofs.YtgemoagbefdemaaW.PrintWords Go.Proofs.YtgemoagbefdemaaW.PrintLast Go.Proofs.YtgemoagbefdemaaW.PrintMore
attribute [local go_sem] max2_int min2_int max_two min_two max_three min_three max_four min_four   -- for this text's walks alone
set_option linter.unusedVariables false
set_option linter.unusedSimpArgs false



def errW : Option Int → Value
  | none => .nilIface
  | some c => .iface 0 (.int .i64 c)
theorem errW_none : errW none = .nilIface := rfl
theorem errW_some (c : Int) : errW (some c) = .iface 0 (.int .i64 c) := rfl

theorem info2 : (Try.prog.info? 2).map (fun i => (i.zero, i.size, i.bytes)) = some (some (.int .i64 0), 1, 8) := by kernel_rfl
theorem info5 : (Try.prog.info? 5).map (fun i => (i.zero, i.size, i.bytes)) = some (some (.int .u8 0), 1, 1) := by kernel_rfl
-- the values' own types

end Go.Proofs.Ytgemoagbefdemaa.GEU
