-- printed by a program of this session (gprint.py) out of the translation; Lean checks it
import Derived.Test.YtkfkhafmgndgaaaRRDoorProg
import Derived.Below
import Derived.Deep.Draws
import Derived.Deep.AppendLies
import Derived.Maps.AppendAt
import Derived.OwnWalk
import Derived.Laws.BytesArg
import Derived.Laws.MakeOwn
import Derived.Laws.OwnMore
import Derived.Deep.OwnRows
import Derived.Tactics
import Derived.Lib.ConvBytes
import Derived.Laws.Slices
import Derived.WalkKit
import Derived.KernelRfl
import Derived.RowKit3
import Derived.Deep.LoopGhost
import Derived.Deep.QuietTactic
import Derived.BigQuiet
import Derived.WideLaws
import Derived.Deep.DeepCutAuto
import Derived.Deep.CutBlock
import Derived.Deep.RegionHeld3
import Derived.Laws.Rows
import Derived.Lib.AppendStr
import Derived.ArgAppend
import Derived.Laws.IdiomCopy
import Derived.OrdersHeld
import Derived.Laws.BitsLemmas
import Derived.RowKit
import Derived.Test.YtkfkhafmgndgaaaRRDoorWWords
import Derived.Test.YtkfkhafmgndgaaaRRDoorWLast
import Derived.Test.YtkfkhafmgndgaaaRRDoorWTab
import Derived.Test.YtkfkhafmgndgaaaRRDoorWFour
import Derived.Test.YtkfkhafmgndgaaaRRDoorWQPut
import Derived.Test.YtkfkhafmgndgaaaRRDoorWApart
import Derived.Test.YtkfkhafmgndgaaaRRDoorWArr
import Derived.Test.YtkfkhafmgndgaaaRRDoorWZeros
import Derived.Test.YtkfkhafmgndgaaaRRDoorWFoot
import Derived.Test.YtkfkhafmgndgaaaRRDoorWKept
import Derived.Test.YtkfkhafmgndgaaaRRDoorWShare
import Derived.Test.YtkfkhafmgndgaaaRRDoorWN
import Derived.Test.YtkfkhafmgndgaaaRRDoorWFootNe
import Derived.Test.YtkfkhafmgndgaaaRRDoorWAt
import Derived.Test.YtkfkhafmgndgaaaRRDoorWEqStruct
import Derived.Test.YtkfkhafmgndgaaaRRDoorWRepsOne
import Derived.Test.YtkfkhafmgndgaaaRRDoorWInv
import Derived.Test.YtkfkhafmgndgaaaRRDoorWInvWords
import Derived.Test.YtkfkhafmgndgaaaRRDoorWGuard
import Derived.Test.YtkfkhafmgndgaaaRRDoorWNEv
import Derived.Test.YtkfkhafmgndgaaaRRDoorWMore
namespace Go.Proofs.YtkfkhafmgndgaaaRRDoor.GK
open Go.RowKit Go.Proofs.YtkfkhafmgndgaaaRRDoorW.PrintWords Go.Proofs.YtkfkhafmgndgaaaRRDoorW.PrintLast Go.Proofs.YtkfkhafmgndgaaaRRDoorW.PrintMore
attribute [local go_sem] max2_int min2_int max_two min_two max_three min_three max_four min_four   -- for this text's walks alone
set_option linter.unusedVariables false
set_option linter.unusedSimpArgs false



def errW : Option Int → Value
  | none => .nilIface
  | some c => .iface 0 (.int .i64 c)
theorem errW_none : errW none = .nilIface := rfl
theorem errW_some (c : Int) : errW (some c) = .iface 0 (.int .i64 c) := rfl

-- the values' own types

end Go.Proofs.YtkfkhafmgndgaaaRRDoor.GK
