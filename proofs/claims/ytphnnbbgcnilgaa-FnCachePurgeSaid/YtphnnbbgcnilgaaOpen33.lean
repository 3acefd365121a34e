/-
  Proved: an impl.CacheOp that can be read as data is read by the print's words. Conditions: none.
-/
import Derived.Test.YtphnnbbgcnilgaaRead
import Derived.Test.YtphnnbbgcnilgaaGFnCachePurgex0
namespace Go.Proofs.Ytphnnbbgcnilgaa.Read
open Go.ChangeShapes Go.WideShapes Go.RowKit Go.Deep Go.Proofs.YtphnnbbgcnilgaaW.PrintWords Go.Proofs.Ytphnnbbgcnilgaa.GFnCachePurge
def good33 (m : S33) : Prop := (Lit.int .i64 m.f0).wf = true ∧ (Lit.int .i64 m.f1).wf = true ∧ (Lit.int .i64 m.f2).wf = true
theorem opens33 : Opens Try.prog 33 k33 good33 := by
  intro H enc w base spare held fuel cs x h
  obtain ⟨hl, n, hf⟩ := struct_cells Try.underlying33 (by kernel_rfl) (by kernel_rfl) h
  obtain ⟨v0, y0, e0, t0⟩ := hf 0 _ rfl
  obtain ⟨v1, y1, e1, t1⟩ := hf 1 _ rfl
  obtain ⟨v2, y2, e2, t2⟩ := hf 2 _ rfl
  obtain ⟨a, ha, _, wa⟩ := DataW.trod_int Try.underlying3 t0
  obtain ⟨b, hb, _, wb⟩ := DataW.trod_int Try.underlying3 t1
  obtain ⟨c, hc, _, wc⟩ := DataW.trod_int Try.underlying3 t2
  cases ha; cases hb; cases hc
  match cs, hl with
  | [c0, c1, c2], _ =>
    cases e0; cases e1; cases e2
    exact ⟨⟨a, b, c⟩, k33_mk w ⟨a, b, c⟩, wa, wb, wc⟩
end Go.Proofs.Ytphnnbbgcnilgaa.Read
