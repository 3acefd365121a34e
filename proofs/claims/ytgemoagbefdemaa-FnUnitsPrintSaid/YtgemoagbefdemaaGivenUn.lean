/-
  Proved: contracts of impl.FormatNumber, impl.FormatBytes and impl.UnitsPrint in the print's form. Conditions: as the functions say.
-/
import Derived.Test.YtgemoagbefdemaaUnN
namespace Go.Proofs.Ytgemoagbefdemaa.GivenUn
open Go.RowKit Go.Proofs.YtgemoagbefdemaaW.PrintWords Go.Proofs.Ytgemoagbefdemaa.Common Go.Proofs.Ytgemoagbefdemaa.UnK Go.Proofs.Ytgemoagbefdemaa.UnL Go.Proofs.Ytgemoagbefdemaa.UnM
set_option linter.unusedVariables false
def small (v : Int) : Prop := -9223372036854775808 ≤ v ∧ v ≤ 9223372036854775807
instance (v : Int) : Decidable (small v) := inferInstanceAs (Decidable (_ ∧ _))
def impl_FormatNumber.f (v : Int) : Option ByteArray := if small v then some (num 0 v) else none
theorem impl_FormatNumber.calls (v : Int) (r : ByteArray) (w : World) (h : impl_FormatNumber.f v = some r) :
    Calls Try.prog 4 #[.int .i64 v] w fun e w' => e = .returned (.string r) ∧ Below w.heap.size w w' := by
  unfold impl_FormatNumber.f at h
  split at h
  · rename_i hs
    injection h with h
    rw [← h, num0]
    exact implN_c v hs.1 hs.2 w
  · cases h
def impl_FormatBytes.f (v : Int) : Option ByteArray := if small v then some (num 2 v) else none
theorem impl_FormatBytes.calls (v : Int) (r : ByteArray) (w : World) (h : impl_FormatBytes.f v = some r) :
    Calls Try.prog 5 #[.int .i64 v] w fun e w' => e = .returned (.string r) ∧ Below w.heap.size w w' := by
  unfold impl_FormatBytes.f at h
  split at h
  · rename_i hs
    injection h with h
    rw [← h, num2]
    exact implB_c v hs.1 hs.2 w
  · cases h
def impl_UnitsPrint.f (k : Int) (n : ByteArray) (p v : Int) : Option ByteArray := if (0 ≤ k ∧ k ≤ 2) ∧ (p = 0 ∨ p = 1) ∧ small v ∧ n.size ≤ 1000 then some (upr k p n v) else none
theorem impl_UnitsPrint.calls (k : Int) (n : ByteArray) (p v : Int) (r : ByteArray) (w : World) (h : impl_UnitsPrint.f k n p v = some r) :
    Calls Try.prog 6 #[.int .i64 k, .string n, .int .i64 p, .int .i64 v] w fun e w' => e = .returned (.string r) ∧ Below w.heap.size w w' := by
  unfold impl_UnitsPrint.f at h
  split at h
  · rename_i hs
    obtain ⟨h1, h2, h3, h4⟩ := hs
    injection h with h
    rw [← h]
    exact UnN.units_c k p v n h1 h2 h3.1 h3.2 h4 w
  · cases h
end Go.Proofs.Ytgemoagbefdemaa.GivenUn
