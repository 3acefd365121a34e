-- printed by a program of this session (gprint.py) out of the translation; Lean checks it
import Derived.Test.YtjoagjkmghmnnaaProg
import Derived.Below
import Derived.Deep.Draws
import Derived.Deep.AppendLies
import Derived.Maps.AppendAt
import Derived.OwnWalk
import Derived.Laws.BytesArg
import Derived.Laws.MakeOwn
import Derived.Laws.OwnMore
import Derived.Deep.OwnRows
import Derived.Tactics
import Derived.Lib.ConvBytes
import Derived.Laws.Slices
import Derived.WalkKit
import Derived.KernelRfl
import Derived.RowKit3
import Derived.Deep.LoopGhost
import Derived.Deep.QuietTactic
import Derived.BigQuiet
import Derived.WideLaws
import Derived.Deep.DeepCutAuto
import Derived.Deep.CutBlock
import Derived.Deep.RegionHeld3
import Derived.Laws.Rows
import Derived.Lib.AppendStr
import Derived.ArgAppend
import Derived.Laws.IdiomCopy
import Derived.OrdersHeld
import Derived.Laws.BitsLemmas
import Derived.RowKit
import Derived.Test.YtjoagjkmghmnnaaWWords
import Derived.Test.YtjoagjkmghmnnaaWLast
import Derived.Test.YtjoagjkmghmnnaaWTab
import Derived.Test.YtjoagjkmghmnnaaWFour
import Derived.Test.YtjoagjkmghmnnaaWQPut
import Derived.Test.YtjoagjkmghmnnaaWApart
import Derived.Test.YtjoagjkmghmnnaaWArr
import Derived.Test.YtjoagjkmghmnnaaWZeros
import Derived.Test.YtjoagjkmghmnnaaWFoot
import Derived.Test.YtjoagjkmghmnnaaWKept
import Derived.Test.YtjoagjkmghmnnaaWShare
import Derived.Test.YtjoagjkmghmnnaaWN
import Derived.Test.YtjoagjkmghmnnaaWFootNe
import Derived.Test.YtjoagjkmghmnnaaWAt
import Derived.Test.YtjoagjkmghmnnaaWEqStruct
import Derived.Test.YtjoagjkmghmnnaaWRepsOne
import Derived.Test.YtjoagjkmghmnnaaWInv
import Derived.Test.YtjoagjkmghmnnaaWInvWords
import Derived.Test.YtjoagjkmghmnnaaWGuard
import Derived.Test.YtjoagjkmghmnnaaWNEv
import Derived.Test.YtjoagjkmghmnnaaWMore
namespace Go.Proofs.Ytjoagjkmghmnnaa.GEB
open Go.RowKit Go.Proofs.YtjoagjkmghmnnaaW.PrintWords Go.Proofs.YtjoagjkmghmnnaaW.PrintLast Go.Proofs.YtjoagjkmghmnnaaW.PrintMore
attribute [local go_sem] max2_int min2_int max_two min_two max_three min_three max_four min_four   -- for this text's walks alone
set_option linter.unusedVariables false
set_option linter.unusedSimpArgs false



def errW : Option Int → Value
  | none => .nilIface
  | some c => .iface 0 (.int .i64 c)
theorem errW_none : errW none = .nilIface := rfl
theorem errW_some (c : Int) : errW (some c) = .iface 0 (.int .i64 c) := rfl

theorem info5 : (Try.prog.info? 5).map (fun i => (i.zero, i.size, i.bytes)) = some (some (.int .u8 0), 1, 1) := by kernel_rfl
-- the values' own types

end Go.Proofs.Ytjoagjkmghmnnaa.GEB
