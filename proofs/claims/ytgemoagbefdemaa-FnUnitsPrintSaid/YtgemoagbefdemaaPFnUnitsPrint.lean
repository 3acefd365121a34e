/-
  Proved: the plain law behind Rows.FnUnitsPrintSaid, over numbers and lists alone. Conditions: none beyond the statement's own.
-/
import Derived.Test.YtgemoagbefdemaaRead
import Derived.IntWalk
import Derived.Test.YtgemoagbefdemaaGFnUnitsPrintx1
namespace Go.Proofs.Ytgemoagbefdemaa.PureFnUnitsPrint
set_option linter.unusedVariables false
open Go.RowKit Go.Proofs.YtgemoagbefdemaaW.PrintWords Go.Proofs.Ytgemoagbefdemaa.Read Go.Proofs.Ytgemoagbefdemaa.GFnUnitsPrint Go.Proofs.Ytgemoagbefdemaa.GivenUn Go.Proofs.Ytgemoagbefdemaa.UnM

theorem pure (a0 : Int) (w0 : (Lit.int .u8 a0).wf = true) (a1 : ByteArray) (w1 : a1.size ≤ maxLen) (a2 : Bool) (a3 : Int) (w3 : (Lit.int .i64 a3).wf = true) : laws_FnUnitsPrint.f a0 a1 a2 a3 = some true := by
  have hw3 : small a3 := by
    have : -9223372036854775808 ≤ a3 ∧ a3 ≤ 9223372036854775807 := by
      simpa [Lit.wf, IntKind.min, IntKind.max, IntKind.signed, IntKind.bits] using w3
    exact this
  have hw0 : 0 ≤ a0 := by
    have : 0 ≤ a0 ∧ a0 ≤ 255 := by simpa [Lit.wf, IntKind.min, IntKind.max, IntKind.signed, IntKind.bits] using w0
    exact this.1
  have hm : Int.tmod a0 3 = a0 % 3 := Int.tmod_eq_emod_of_nonneg hw0
  obtain ⟨k, hk⟩ : ∃ k, k = a0 % 3 := ⟨_, rfl⟩
  have hk0 : 0 ≤ k ∧ k ≤ 2 := by omega
  have hwk : wrap64 k = k := by unfold wrap64; omega
  unfold laws_FnUnitsPrint.f
  rw [hm, ← hk, hwk]
  by_cases h1 : (a1.size : Int) > 2147483647
  · rw [if_pos h1]
  rw [if_neg h1]
  by_cases h2 : (a1.size : Int) > 100
  · rw [if_pos h2]
  rw [if_neg h2]
  have e0 : impl_FormatNumber.f a3 = some (num 0 a3) := if_pos hw3
  have e2 : impl_FormatBytes.f a3 = some (num 2 a3) := if_pos hw3
  have z0 := num_size 0 a3 hw3.1 hw3.2
  have z2 := num_size 2 a3 hw3.1 hw3.2
  have u0 : impl_UnitsPrint.f k a1 0 a3 = some (a1 ++ num k a3) := by
    unfold impl_UnitsPrint.f
    rw [if_pos ⟨hk0, Or.inl rfl, hw3, by omega⟩]
    unfold upr
    rw [if_neg (by decide)]
  have u1 : impl_UnitsPrint.f k a1 1 a3 = some (num k a3 ++ a1) := by
    unfold impl_UnitsPrint.f
    rw [if_pos ⟨hk0, Or.inr rfl, hw3, by omega⟩]
    unfold upr
    rw [if_pos rfl]
  rw [e0, e2, u0, u1]
  simp only [Option.bind_some]
  by_cases hk2 : k = 2
  · rw [if_pos hk2, if_pos (by omega), hk2]
    split
    · rw [if_pos (by omega)]; simp
    · simp
  · have hn : num k a3 = num 0 a3 := by
      unfold num
      rw [if_neg hk2, if_neg (by decide)]
    rw [if_neg hk2, if_pos (by omega), hn]
    split
    · rw [if_pos (by omega)]; simp
    · simp

end Go.Proofs.Ytgemoagbefdemaa.PureFnUnitsPrint
