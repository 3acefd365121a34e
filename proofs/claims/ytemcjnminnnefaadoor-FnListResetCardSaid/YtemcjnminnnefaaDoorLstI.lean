/-
  Proved: what Style of a list writer without a style does. Conditions: none but the writer's state.
-/
import Derived.Test.YtemcjnminnnefaaDoorLstH
namespace Go.Proofs.YtemcjnminnnefaaDoor.LstI
open Go.RowKit Go.Proofs.YtemcjnminnnefaaDoorW.PrintWords Go.Proofs.YtemcjnminnnefaaDoor.Common Go.Proofs.YtemcjnminnnefaaDoor.LstT Go.Proofs.YtemcjnminnnefaaDoor.LstA Go.Proofs.YtemcjnminnnefaaDoor.LstB Go.Proofs.YtemcjnminnnefaaDoor.LstC Go.Proofs.YtemcjnminnnefaaDoor.LstE Go.Proofs.YtemcjnminnnefaaDoor.LstF Go.Proofs.YtemcjnminnnefaaDoor.LstG Go.Proofs.YtemcjnminnnefaaDoor.Bld
set_option linter.unusedVariables false
set_option linter.unusedSimpArgs false
set_option maxRecDepth 1000000

def dflt : Sty := ⟨⟨#[42]⟩, ⟨#[42]⟩, ⟨#[42]⟩, ⟨#[42]⟩, ⟨#[32, 32]⟩, ⟨#[42]⟩, ⟨#[]⟩, ⟨#[83, 116, 121, 108, 101, 68, 101, 102, 97, 117, 108, 116]⟩⟩
theorem default_c (W : World) : Calls Tryd.prog 45 #[] W fun e w' => e = .returned (.agg (styC dflt)) ∧ Below W.heap.size W w' := by
  go_enter Tryd.func45, Tryd.ntmps45
  go_wp2
  refine bodyPost_ret (results_single (r := .cell 0 67) (v := .agg (styC dflt)) rfl (.cell W.heap.size 67 (styC dflt) (0, 0) _ rfl (heap_alloc_new W _) Tryd.underlying67 rfl (by kernel_rfl) .nil)) rfl ⟨rfl, below_alloc (Below.refl _ _) _⟩
/-- the writer in block q, with a style in block qs -/
structure RS (B : Nat) (w0 : World) (q qs : Nat) (gs : List Nat) (its : List (Nat × ByteArray)) (lev : Nat) (y : Sty) (vs cl : ByteArray) (ap : Nat) (v : Value) (w : World) : Prop where
  hq : w.heap[q]? = some (.cells #[.int .i64 (ap : Int), .string vs, .string cl, v, .int .i64 (lev : Int), .pointer (some ⟨qs, 0, none⟩)] 44 (0, 0))
  hs : w.heap[qs]? = some (.cells (styC y) 67 (0, 0))
  row : Kd.R PK 53 w B (fun _ => True) v gs
  el : ∀ (i g : Nat) (it : Nat × ByteArray), gs[i]? = some g → its[i]? = some it → w.heap[g]? = some (.cells #[.int .i64 (it.1 : Int), .string it.2] 55 (0, 0)) ∧ B ≤ g
  len : gs.length = its.length
  bel : Below B w0 w
  bq : B ≤ q
theorem RS.below {B : Nat} {w0 : World} {q qs : Nat} {gs : List Nat} {its : List (Nat × ByteArray)} {lev : Nat} {y : Sty} {vs cl : ByteArray} {ap : Nat} {v : Value} {w w' : World} (h : RS B w0 q qs gs its lev y vs cl ap v w) (hB : B ≤ w.heap.size) (hb : Below w.heap.size w w') : RS B w0 q qs gs its lev y vs cl ap v w' :=
  ⟨(hb.block _ (Array.getElem?_eq_some_iff.1 h.hq).1).trans h.hq, (hb.block _ (Array.getElem?_eq_some_iff.1 h.hs).1).trans h.hs, Kd.R_below h.row hb, fun i g it h1 h2 => ⟨(hb.block _ (Array.getElem?_eq_some_iff.1 (h.el i g it h1 h2).1).1).trans (h.el i g it h1 h2).1, (h.el i g it h1 h2).2⟩, h.len, h.bel.trans (hb.mono hB), h.bq⟩
/-- one of the writer's own cells is written -/
theorem RS.put {B : Nat} {w0 : World} {q qs : Nat} {gs : List Nat} {its : List (Nat × ByteArray)} {lev : Nat} {y : Sty} {vs cl vs1 cl1 : ByteArray} {ap ap1 : Nat} {v : Value} {w : World} (h : RS B w0 q qs gs its lev y vs cl ap v w) (j : Nat) (u : Value)
    (hu : (#[.int .i64 (ap : Int), .string vs, .string cl, v, .int .i64 (lev : Int), .pointer (some ⟨qs, 0, none⟩)] : Array Value).setIfInBounds j u = #[.int .i64 (ap1 : Int), .string vs1, .string cl1, v, .int .i64 (lev : Int), .pointer (some ⟨qs, 0, none⟩)]) : RS B w0 q qs gs its lev y vs1 cl1 ap1 v (w.setCell ⟨q, j, none⟩ u) := by
  refine ⟨(set_cells w q j _ _ _ h.hq).trans (by rw [hu]), (setCell_block w _ u qs (typed_ne h.hs h.hq (by decide))).trans h.hs, Kd.R_set h.row h.hq pk_ne j _, fun i k it h3 h4 => ?_, h.len, h.bel.setCell h.bq _, h.bq⟩
  have hk := h.el i k it h3 h4
  exact ⟨(setCell_block w _ _ k (typed_ne hk.1 h.hq (by decide))).trans hk.1, hk.2⟩
theorem style_c {B : Nat} {w0 : World} {q : Nat} {gs : List Nat} {its : List (Nat × ByteArray)} {lev : Nat} {v : Value} {w : World} (h : LS B w0 q gs its lev v w) (hB : B ≤ w.heap.size) :
    Calls Tryd.prog 29 #[.pointer (some ⟨q, 0, none⟩)] w fun e w' => ∃ qs, e = .returned (.pointer (some ⟨qs, 0, none⟩)) ∧ RS B w0 q qs gs its lev dflt ⟨#[]⟩ ⟨#[]⟩ 0 v w' := by
  have H : ∀ W, Aside0 (Calls Tryd.prog 45 #[] W fun e w' => e = .returned (.agg #[.int .i64 0, .string ⟨#[42]⟩, .string ⟨#[42]⟩, .string ⟨#[42]⟩, .string ⟨#[42]⟩, .string ⟨#[32, 32]⟩, .string ⟨#[42]⟩, .string ⟨#[10]⟩, .string ⟨#[]⟩, .string ⟨#[83, 116, 121, 108, 101, 68, 101, 102, 97, 117, 108, 116]⟩]) ∧ Below W.heap.size W w') := fun W => Aside0.mk (default_c W)
  have HL := Aside0.mk h
  have HB := Aside0.mk hB
  obtain ⟨h3, h4, h5, h0, hf⟩ := h.cells
  clear h hB hf h3 h4 h0
  go_enter Tryd.func29, Tryd.ntmps29
  go_wp2_with (go_at_call 45; refine (H _).out.mono ?_; rintro e w1 ⟨rfl, hb⟩; have HL1 := Aside0.mk (HL.out.below HB.out hb); have HZ1 := Aside0.mk (Nat.le_trans HB.out hb.size); have hA5 := fun o => pw_cell_below (below_alloc (Below.refl w1.heap.size w1) o) HL1.out.cells.2.2.1; have hF5 : ∀ o, (w1.alloc o).frozen? ⟨q, 5, none⟩ = false := (fun o => (HL1.out.below HZ1.out (below_alloc (Below.refl _ _) o)).cells.2.2.2.2 5); clear hb)
  go_ret
  have hl := HL1.out.below HZ1.out (below_alloc (Below.refl _ _) (.cells (styC dflt) 67))
  have hnew := heap_alloc_new w1 (.cells (styC dflt) 67)
  refine ⟨w1.heap.size, rfl, set_cells _ q 5 _ _ _ hl.hq, (setCell_block _ _ _ w1.heap.size (typed_ne hnew hl.hq (by decide))).trans hnew, Kd.R_set hl.row hl.hq pk_ne 5 _, fun i k it h3 h4 => ?_, hl.len, hl.bel.setCell hl.bq _, hl.bq⟩
  have hk := hl.el i k it h3 h4
  exact ⟨(setCell_block _ _ _ k (typed_ne hk.1 hl.hq (by decide))).trans hk.1, hk.2⟩
end Go.Proofs.YtemcjnminnnefaaDoor.LstI
