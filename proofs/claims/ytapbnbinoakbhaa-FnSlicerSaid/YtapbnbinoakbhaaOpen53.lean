/-
  Proved: an impl.TwSliceOp that can be read as data is read by the print's words. Conditions: none.
-/
import Derived.Test.YtapbnbinoakbhaaRead
import Derived.Test.YtapbnbinoakbhaaGESx0
namespace Go.Proofs.Ytapbnbinoakbhaa.Read
open Go.ChangeShapes Go.WideShapes Go.RowKit Go.Deep Go.Proofs.YtapbnbinoakbhaaW.PrintWords Go.Proofs.Ytapbnbinoakbhaa.GES
def good53 (m : S53) : Prop := (Lit.int .i64 m.f0).wf = true ∧ (Lit.int .i64 m.f1).wf = true ∧ Goods (fun n => (Lit.int .i64 n).wf = true) m.f2
theorem opens53 : Opens Try.prog 53 k53 good53 := by
  intro H enc w base spare held fuel cs x h
  obtain ⟨hl, n, hf⟩ := struct_cells Try.underlying53 (by kernel_rfl) (by kernel_rfl) h
  obtain ⟨v0, y0, e0, t0⟩ := hf 0 _ rfl
  obtain ⟨v1, y1, e1, t1⟩ := hf 1 _ rfl
  obtain ⟨v2, y2, e2, t2⟩ := hf 2 _ rfl
  obtain ⟨a, ha, _, wa⟩ := DataW.trod_int Try.underlying3 t0
  obtain ⟨b, hb, _, wb⟩ := DataW.trod_int Try.underlying3 t1
  obtain ⟨c, hc, gc⟩ := (opens_slice (P := Try.prog) (d := Kd.int .i64) Try.underlying29 (by kernel_rfl) (opens_int Try.underlying3)) H enc w base spare held n _ _ t2
  cases ha; cases hb
  match cs, hl with
  | [c0, c1, c2], _ =>
    cases e0; cases e1; cases e2
    exact ⟨⟨a, b, c⟩, ⟨[.int .i64 a], [.int .i64 b, v2], rfl, rfl, ⟨[.int .i64 b], [v2], rfl, rfl, hc⟩⟩, wa, wb, gc⟩
end Go.Proofs.Ytapbnbinoakbhaa.Read
