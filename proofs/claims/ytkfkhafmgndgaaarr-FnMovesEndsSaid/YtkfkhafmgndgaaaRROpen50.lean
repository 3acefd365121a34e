/-
  Proved: an impl.Move that can be read as data is read by the print's words. Conditions: none.
-/
import Derived.Test.YtkfkhafmgndgaaaRRRead
import Derived.Test.YtkfkhafmgndgaaaRRGMx0
namespace Go.Proofs.YtkfkhafmgndgaaaRR.Read
open Go.ChangeShapes Go.WideShapes Go.RowKit Go.Deep Go.Proofs.YtkfkhafmgndgaaaRRW.PrintWords Go.Proofs.YtkfkhafmgndgaaaRR.GM
def good50 (m : S50) : Prop := (Lit.int .i64 m.f0).wf = true ∧ (Lit.int .i64 m.f1).wf = true
theorem opens50 : Opens Try.prog 50 k50 good50 := by
  intro H enc w base spare held fuel cs x h
  obtain ⟨hl, n, hf⟩ := struct_cells Try.underlying50 (by kernel_rfl) (by kernel_rfl) h
  obtain ⟨v0, y0, e0, t0⟩ := hf 0 _ rfl
  obtain ⟨v1, y1, e1, t1⟩ := hf 1 _ rfl
  obtain ⟨a, ha, _, wa⟩ := DataW.trod_int Try.underlying3 t0
  obtain ⟨b, hb, _, wb⟩ := DataW.trod_int Try.underlying3 t1
  cases ha; cases hb
  match cs, hl with
  | [c0, c1], _ =>
    cases e0; cases e1
    exact ⟨⟨a, b⟩, k50_mk w ⟨a, b⟩, wa, wb⟩
end Go.Proofs.YtkfkhafmgndgaaaRR.Read
