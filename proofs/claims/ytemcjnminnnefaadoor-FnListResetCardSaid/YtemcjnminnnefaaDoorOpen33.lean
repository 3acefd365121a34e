/-
  Proved: a spec.LsItem that can be read as data is read by the print's words. Conditions: none.
-/
import Derived.Test.YtemcjnminnnefaaDoorRead
import Derived.Test.YtemcjnminnnefaaDoorGFnListResetx0
namespace Go.Proofs.YtemcjnminnnefaaDoor.Read
open Go.ChangeShapes Go.WideShapes Go.RowKit Go.Deep Go.Proofs.YtemcjnminnnefaaDoorW.PrintWords Go.Proofs.YtemcjnminnnefaaDoor.GFnListReset
def good33 (m : S33) : Prop := (Lit.int .i64 m.f1).wf = true
theorem opens33 : Opens Tryd.prog 33 k33 good33 := by
  intro H enc w base spare held fuel cs x h
  obtain ⟨hl, n, hf⟩ := struct_cells Tryd.underlying33 (by kernel_rfl) (by kernel_rfl) h
  obtain ⟨v0, y0, e0, t0⟩ := hf 0 _ rfl
  obtain ⟨v1, y1, e1, t1⟩ := hf 1 _ rfl
  obtain ⟨a, ha, _⟩ := DataW.trod_string Tryd.underlying9 t0
  obtain ⟨b, hb, _, wb⟩ := DataW.trod_int Tryd.underlying3 t1
  cases ha; cases hb
  match cs, hl with
  | [c0, c1], _ =>
    cases e0; cases e1
    exact ⟨⟨a, b⟩, ⟨[.string a], [.int .i64 b], rfl, rfl, rfl⟩, wb⟩
end Go.Proofs.YtemcjnminnnefaaDoor.Read
