/-
  Proved: contracts of functions that the print does not take, in the print's own form. Conditions: each function's own, where its plain function gives an answer.
-/
import Derived.Test.YtjoagjkmghmnnaaProg
import Derived.Test.YtjoagjkmghmnnaaWWords
import Derived.Lib.Repeat
import Derived.Test.YtjoagjkmghmnnaaShelf
namespace Go.Proofs.Ytjoagjkmghmnnaa.Given
open Go.RowKit Go.Proofs.YtjoagjkmghmnnaaW.PrintWords

def strings_Repeat.f (s : ByteArray) (n : Int) : Option ByteArray :=
  if 0 ≤ n ∧ n ≤ 9223372036854775807 ∧ s.size * n.toNat ≤ 140737488355328 then some ⟨(Lib.repeatL s.data.toList n.toNat).toArray⟩ else none
theorem strings_Repeat.calls (s : ByteArray) (n : Int) (r : ByteArray) (w : World) (h : strings_Repeat.f s n = some r) :
    Calls Try.prog 116 #[.string s, .int .i64 n] w fun e w' => e = .returned (.string r) ∧ Below w.heap.size w w' := by
  unfold strings_Repeat.f at h
  split at h
  · rename_i hc
    obtain ⟨h0, h1, h2⟩ := hc
    obtain rfl := Option.some.inj h
    obtain ⟨c, rfl⟩ := Int.eq_ofNat_of_zero_le h0
    exact Try.strings_Repeat s c w (by omega) (by simpa using h2)
  · cases h
end Go.Proofs.Ytjoagjkmghmnnaa.Given
