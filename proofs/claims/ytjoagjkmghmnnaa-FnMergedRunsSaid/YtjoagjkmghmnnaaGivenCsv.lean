/-
  Proved: the contract of impl.CsvRow in the print's own form. Conditions: where its plain function gives an answer.
-/
import Derived.Test.YtjoagjkmghmnnaaCsvZ
namespace Go.Proofs.Ytjoagjkmghmnnaa.GivenCsv
open Go.RowKit Go.Proofs.YtjoagjkmghmnnaaW.PrintWords Go.Proofs.Ytjoagjkmghmnnaa.Common Go.Proofs.Ytjoagjkmghmnnaa.CsvP
set_option linter.unusedVariables false

def okr (l : List ByteArray) (columns number : Int) : Bool := (l.all fun x => decide (x.size ≤ 2000)) && decide (l.length ≤ 2001 ∧ 0 ≤ columns ∧ columns ≤ 300 ∧ -9223372036854775808 ≤ number ∧ number ≤ 9223372036854775807)
theorem okr_iff (l : List ByteArray) (columns number : Int) : okr l columns number = true ↔ (∀ x ∈ l, x.size ≤ 2000) ∧ l.length ≤ 2001 ∧ 0 ≤ columns ∧ columns ≤ 300 ∧ -9223372036854775808 ≤ number ∧ number ≤ 9223372036854775807 := by
  unfold okr
  rw [Bool.and_eq_true, decide_eq_true_iff, List.all_eq_true]
  simp only [decide_eq_true_iff]
def impl_CsvRow.f (l0 : List ByteArray) (a1 : Int) (a2 a3 : Bool) (a4 : Int) : Option ByteArray := if okr l0 a1 a4 = true then some (ofL (row a2 a3 a4 l0 a1)) else none
theorem impl_CsvRow.calls (A0 : Option Addr) (c0 : Nat) (l0 : List ByteArray) (a1 : Int) (a2 a3 : Bool) (a4 : Int) (r : ByteArray) (w : World) (hr0 : Kd.C Kd.string w A0 l0.length l0) (hc0 : l0.length ≤ c0) (h : impl_CsvRow.f l0 a1 a2 a3 a4 = some r) :
    Calls Try.prog 39 #[.slice A0 l0.length c0, .int .i64 a1, .bool a2, .bool a3, .int .i64 a4] w fun e w' => e = .returned (.string r) ∧ Below w.heap.size w w' := by
  unfold impl_CsvRow.f at h
  split at h
  · rename_i hc
    obtain ⟨h1, h2, h3, h4, h5, h6⟩ := (okr_iff _ _ _).1 hc
    obtain rfl := Option.some.inj h
    exact CsvZ.impl_c a2 a3 a4 a1 A0 c0 l0 w hr0 hc0 h5 h6 h3 h4 h2 h1
  · cases h
end Go.Proofs.Ytjoagjkmghmnnaa.GivenCsv
