/-
  Proved: contracts of impl.TextCRLF and spec.TxReturned in the print's own form. Conditions: where their plain functions give an answer: ASCII texts of at most 1000 bytes.
-/
import Derived.Test.YtjoagjkmghmnnaaCrlfW
import Derived.Test.YtjoagjkmghmnnaaTxRetW
namespace Go.Proofs.Ytjoagjkmghmnnaa.GivenCrlf
open Go.RowKit Go.Proofs.YtjoagjkmghmnnaaW.PrintWords Go.Proofs.Ytjoagjkmghmnnaa.Common Go.Proofs.Ytjoagjkmghmnnaa.Crlf
set_option linter.unusedVariables false

def okc (s : ByteArray) : Bool := decide (s.size ≤ 1000) && s.data.toList.all fun c => decide (c.toNat < 128)
theorem okc_iff (s : ByteArray) : okc s = true ↔ s.size ≤ 1000 ∧ ∀ c ∈ s.data.toList, c.toNat < 128 := by
  unfold okc
  rw [Bool.and_eq_true, decide_eq_true_iff, List.all_eq_true]
  simp only [decide_eq_true_iff]
def impl_TextCRLF.f (s : ByteArray) : Option ByteArray := if okc s = true then some (ofL (byLines s.data.toList)) else none
theorem impl_TextCRLF.calls (s : ByteArray) (r : ByteArray) (w : World) (h : impl_TextCRLF.f s = some r) :
    Calls Try.prog 36 #[.string s] w fun e w' => e = .returned (.string r) ∧ Below w.heap.size w w' := by
  unfold impl_TextCRLF.f at h
  split at h
  · rename_i hc
    obtain rfl := Option.some.inj h
    exact CrlfW.impl_crlf s w ((okc_iff s).1 hc).1 ((okc_iff s).1 hc).2
  · cases h
def spec_TxReturned.f (s : ByteArray) : Option ByteArray := if okc s = true then some (ofL (ret s.data.toList [] [] 0)) else none
theorem spec_TxReturned.calls (s : ByteArray) (r : ByteArray) (w : World) (h : spec_TxReturned.f s = some r) :
    Calls Try.prog 37 #[.string s] w fun e w' => e = .returned (.string r) ∧ Below w.heap.size w w' := by
  unfold spec_TxReturned.f at h
  split at h
  · rename_i hc
    obtain rfl := Option.some.inj h
    exact TxRetW.tx_returned s w ((okc_iff s).1 hc).1 ((okc_iff s).1 hc).2
  · cases h
end Go.Proofs.Ytjoagjkmghmnnaa.GivenCrlf
