/-
  Proved: a spec.TxPiece that can be read as data is read by the print's words. Conditions: none.
-/
import Derived.Test.YtkfkhafmgndgaaaRRDoorRead
import Derived.Test.YtkfkhafmgndgaaaRRDoorGFnTextStripx0
namespace Go.Proofs.YtkfkhafmgndgaaaRRDoor.Read
open Go.ChangeShapes Go.WideShapes Go.RowKit Go.Deep Go.Proofs.YtkfkhafmgndgaaaRRDoorW.PrintWords Go.Proofs.YtkfkhafmgndgaaaRRDoor.GFnTextStrip
def good46 (m : S46) : Prop := Goods (fun n => (Lit.int .i64 n).wf = true) m.f0 ∧ m.f1.size ≤ maxLen
theorem opens46 : Opens Tryd.prog 46 k46 good46 := by
  intro H enc w base spare held fuel cs x h
  obtain ⟨hl, n, hf⟩ := struct_cells Tryd.underlying46 (by kernel_rfl) (by kernel_rfl) h
  obtain ⟨v0, y0, e0, t0⟩ := hf 0 _ rfl
  obtain ⟨v1, y1, e1, t1⟩ := hf 1 _ rfl
  obtain ⟨a, ha, ga⟩ := (opens_slice (P := Tryd.prog) (d := Kd.int .i64) Tryd.underlying25 (by kernel_rfl) (opens_int Tryd.underlying3)) H enc w base spare held n _ _ t0
  obtain ⟨b, hb, gb⟩ := (opens_string (P := Tryd.prog) Tryd.underlying9) H enc w base spare held n _ _ t1
  match cs, hl with
  | [c0, c1], _ =>
    cases e0; cases e1
    exact ⟨⟨a, b⟩, ⟨[v0], [v1], rfl, ha, hb⟩, ga, gb⟩
end Go.Proofs.YtkfkhafmgndgaaaRRDoor.Read
