/-
  Proved: contracts of impl.TextFormat, spec.TxSimple, spec.TxWidth and spec.TxWords in the print's form. Conditions: as the functions say.
-/
import Derived.Test.YtnjehpjkanfnnaaDoorTtT
import Derived.Test.YtnjehpjkanfnnaaDoorTtW
namespace Go.Proofs.YtnjehpjkanfnnaaDoor.GivenTt
open Go.RowKit Go.Proofs.YtnjehpjkanfnnaaDoorW.PrintWords Go.Proofs.YtnjehpjkanfnnaaDoor.Common
set_option linter.unusedVariables false

def letb (b : UInt8) : Bool := b == 32 || (decide (97 ≤ b) && decide (b ≤ 122)) || (decide (65 ≤ b) && decide (b ≤ 90))
theorem letb_iff (b : UInt8) : letb b = true ↔ TtP.let_ b := by
  unfold letb TtP.let_
  simp [Bool.or_eq_true, Bool.and_eq_true, or_assoc]
def impl_TextFormat.f (n : Int) (s : ByteArray) : Option ByteArray := if n = 2 ∧ s.size < 35184372088832 ∧ s.data.toList.all letb = true then some ⟨(TtP.titleL 32 s.data.toList).toArray⟩ else none
theorem impl_TextFormat.calls (n : Int) (s : ByteArray) (r : ByteArray) (w : World) (h : impl_TextFormat.f n s = some r) :
    Calls Tryd.prog 6 #[.int .i64 n, .string s] w fun e w' => e = .returned (.string r) ∧ Below w.heap.size w w' := by
  unfold impl_TextFormat.f at h
  split at h
  · rename_i hs
    obtain ⟨rfl, h1, h2⟩ := hs
    injection h with h
    rw [← h]
    exact TtT.format_c s h1 (fun b hb => (letb_iff b).1 (List.all_eq_true.1 h2 b hb)) w
  · cases h
def spec_TxSimple.f (s : ByteArray) (b : Bool) : Option Bool := some (LstN.simple s b)
theorem spec_TxSimple.calls (s : ByteArray) (b : Bool) (r : Bool) (w : World) (h : spec_TxSimple.f s b = some r) :
    Calls Tryd.prog 8 #[.string s, .bool b] w fun e w' => e = .returned (.bool r) ∧ Below w.heap.size w w' := by
  injection h with h
  rw [← h]
  exact LstN.simple_walk s b w
def spec_TxWidth.f (s : ByteArray) : Option Int := if s.size ≤ 1000000 then some ((BkW.width s : Nat) : Int) else none
theorem spec_TxWidth.calls (s : ByteArray) (r : Int) (w : World) (h : spec_TxWidth.f s = some r) :
    Calls Tryd.prog 11 #[.string s] w fun e w' => e = .returned (.int .i64 r) ∧ Below w.heap.size w w' := by
  unfold spec_TxWidth.f at h
  split at h
  · rename_i hs
    injection h with h
    rw [← h]
    exact BkW.width_walk s hs w
  · cases h
def spec_TxWords.f (s : ByteArray) : Option (List ByteArray) := if s.size ≤ 1000000 then some (TtW.words s) else none
theorem spec_TxWords.calls (s : ByteArray) (r : List ByteArray) (w : World) (h : spec_TxWords.f s = some r) :
    Calls Tryd.prog 9 #[.string s] w fun e w' => ∃ v, e = .returned v ∧ Kd.R Kd.string 9 w' w.heap.size (fun _ => True) v r ∧ Below w.heap.size w w' := by
  unfold spec_TxWords.f at h
  split at h
  · rename_i hs
    injection h with h
    rw [← h]
    exact TtW.words_walk s hs w
  · cases h
end Go.Proofs.YtnjehpjkanfnnaaDoor.GivenTt
