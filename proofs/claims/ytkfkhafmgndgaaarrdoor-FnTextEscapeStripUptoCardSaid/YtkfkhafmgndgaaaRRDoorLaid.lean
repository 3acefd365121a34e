/-
  Proved: what the rows' listed tables give (the powers of ten), and a world for the witnesses in which they read as laid. Conditions: none.
-/
import Derived.Test.YtkfkhafmgndgaaaRRDoorRows
import Derived.Test.YtkfkhafmgndgaaaRRDoorGiven
import Derived.WalkKit
import Derived.ProofKit
import Derived.Deep.DeepHandedRow
import Derived.Lib.LaidTab
import Derived.Stop.LaidErr
namespace Go.Proofs.YtkfkhafmgndgaaaRRDoor.Laid
open Go.RowKit Go.Proofs.YtkfkhafmgndgaaaRRDoorW.PrintWords Go.Proofs.YtkfkhafmgndgaaaRRDoor.Given
set_option linter.unusedVariables false
abbrev L3 : List (String × DataW Unit) := [("math/bits.deBruijn32tab", Rows.laid_math_bits_deBruijn32tab), ("math/bits.deBruijn64tab", Rows.laid_math_bits_deBruijn64tab), ("internal/strconv.uint64pow10", Rows.laid_internal_strconv_uint64pow10)]
theorem gTab : Tryd.prog.globalNamed "internal/strconv.uint64pow10" = some 8 := by kernel_rfl
theorem table {W : World} (h : laidMetH Tryd.prog L3 W) : Tab W := by
  have h1 : laidMet Tryd.prog L3 W := h
  have h2 := (laidMet.tail (laidMet.tail h1))
  exact ⟨Lib.tabBelow_of_tabIs (Lib.tabIs_of_head (rest := []) (t := 106) (e := 81) (n := 20) gTab (by kernel_rfl) (by kernel_rfl) (by kernel_rfl) (by kernel_rfl) (by kernel_rfl) h2)⟩
def cellsOf : DataW Unit → Array Value
  | .agg xs => (xs.map fun | .lit (.int k z) => Value.int k z | _ => .bool false).toArray
  | _ => #[]
def put (w : World) (g : Nat) (d : DataW Unit) : World :=
  { w with heap := w.heap.modify g fun
      | .cells _ t frozen => .cells (cellsOf d) t frozen
      | o => o }
noncomputable def laidWorld (os : Os) : World :=
  put (put (put (World.holding Tryd.prog os ⟨#[], #[], []⟩) 8 Rows.laid_internal_strconv_uint64pow10) 10 Rows.laid_math_bits_deBruijn32tab) 11 Rows.laid_math_bits_deBruijn64tab
end Go.Proofs.YtkfkhafmgndgaaaRRDoor.Laid
