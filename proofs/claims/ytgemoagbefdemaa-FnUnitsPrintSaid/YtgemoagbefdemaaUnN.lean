/-
  Proved: what impl.UnitsPrint returns. Conditions: as told.
-/
import Derived.Test.YtgemoagbefdemaaUnM
import Derived.Laws.Tables
import Derived.Laws.CopyOwn
namespace Go.Proofs.Ytgemoagbefdemaa.UnN
open Go.RowKit Go.Proofs.YtgemoagbefdemaaW.PrintWords Go.Proofs.Ytgemoagbefdemaa.Common Go.Proofs.Ytgemoagbefdemaa.UnM
set_option linter.unusedVariables false
set_option linter.unusedSimpArgs false
set_option maxRecDepth 1000000
theorem row_event {P : Program} {ops : Array Oper} {rest : List Oper} {o : Oper} {a : Act} {Q : Exit → Act → World → Prop} {W : World} (hgd : o.guard = none) {ty : TypeId} {p : Tmp} {v : Operand} (ho : o.op = .store ty (.tmp p) v) (hN : o.dst = none) (g : Nat) (cells : Array Value)
    (hx : a.eval (.tmp p) = .pointer (some ⟨g, 0, none⟩)) (hy : a.eval v = .agg cells) (t : TypeId) (old : Array Value) (hg : W.heap[g]? = some (.cells old t (0, 0))) (hi : (P.info? ty).map (·.size) = some cells.size) (hold : old.size = cells.size) (h1 : cells.all (·.oneCell') = true)
    (h : ∀ w', w' = W.setRow g cells → wpList P ops Q rest a w') : wpList P ops Q (o :: rest) a W := by
  refine wpList_plain hgd fun K hK => ?_
  refine wp_store_row ty _ v ho g cells hx hy t old hg hi hold h1 ?_
  rw [hN]
  exact hK _ _ (h _ rfl)
theorem setRow_heap (w : World) (g : Nat) (cs old : Array Value) (t : TypeId) (f : Nat × Nat) (h : w.heap[g]? = some (.cells old t f)) : (w.setRow g cs).heap[g]? = some (.cells cs t f) := by
  simp [World.setRow, Array.getElem?_modify, h]
theorem setRow_other (w : World) (g b : Nat) (cs : Array Value) (hb : b ≠ g) : (w.setRow g cs).heap[b]? = w.heap[b]? := by
  have : ¬ g = b := fun e => hb e.symm
  simp [World.setRow, Array.getElem?_modify, this]
theorem st_fn {w1 : World} {g : Nat} {n : ByteArray} {p : Int} (F : Value) (hF : F.oneCell' = true) (h : w1.heap[g]? = some (.cells #[.nilFunc, .string n, .int .i64 p] 28 (0, 0))) :
    ∃ w7, (store ⟨g, 0, none⟩ F).run Try.prog w1 = .ok () w7 ∧ w7.heap[g]? = some (.cells #[F, .string n, .int .i64 p] 28 (0, 0)) ∧ (∀ (B : Nat) (w : World), B ≤ g → Below B w w1 → Below B w w7) := by
  refine ⟨w1.setCell ⟨g, 0, none⟩ F, ?_, ?_, fun B w hB hb => hb.setCell hB _⟩
  · rw [run_store Try.prog w1 _ F .plain hF]
    have c0 : w1.cell? ⟨g, 0, none⟩ = some .nilFunc := (blk_cell h 0).trans rfl
    have f0 : w1.frozen? ⟨g, 0, none⟩ = false := blk_frozen h 0
    rw [c0]
    simp only [f0, Bool.false_eq_true, if_false]
  · rw [UnB.set_cells _ g 0 _ _ _ h]
    rfl
set_option maxHeartbeats 4000000 in
theorem units_c (k p v : Int) (n : ByteArray) (hk : 0 ≤ k ∧ k ≤ 2) (hp : p = 0 ∨ p = 1) (hv0 : -9223372036854775808 ≤ v) (hv1 : v ≤ 9223372036854775807) (hn : n.size ≤ 1000) (w : World) :
    Calls Try.prog 6 #[.int .i64 k, .string n, .int .i64 p, .int .i64 v] w fun e w' => e = .returned (.string (upr k p n v)) ∧ Below w.heap.size w w' := by
  have HS := fun F hF w => Aside0.mk (sprint_c F k p v n hF hp hv0 hv1 hn w)
  clear hp hn
  rcases (show k = 0 ∨ k = 1 ∨ k = 2 by omega) with rfl | rfl | rfl
  all_goals (
    go_enter Try.func6, Try.ntmps6
    go_wp2_with (first | ((with_reducible refine gate_store (t := 28) (p := 9) rfl ?_); refine row_event (ty := 28) (p := 9) (v := ?vo) ?hg ?ho ?hn w.heap.size #[.nilFunc, .string n, .int .i64 p] ?hx ?hy 28 #[.nilFunc, .string ⟨#[]⟩, .int .i64 0] ?hh ?hi ?hs ?h1 ?_; (case ho => rfl); (case hg => rfl); (case hn => rfl); (case hx => rfl); (case hy => rfl); (case hi => kernel_rfl); (case hs => rfl); (case h1 => first | kernel_rfl | (simp [Value.oneCell']; done)); (case hh => exact heap_alloc_new w _); intro w1 hw1; have hx1 : w1.heap[w.heap.size]? = some (.cells #[.nilFunc, .string n, .int .i64 p] 28 (0, 0)) := (by subst hw1; exact setRow_heap _ _ _ _ _ _ (heap_alloc_new w _)); have HBw : Aside0 (Below w.heap.size w w1) := ⟨by subst hw1; exact below_setRow (below_alloc (Below.refl _ w) _) (Nat.le_refl _) _⟩; have HX := Aside0.mk hx1; have c0 := (blk_cell hx1 0).trans rfl; have c1 := (blk_cell hx1 1).trans rfl; have c2 := (blk_cell hx1 2).trans rfl; have fr0 := fun i => blk_frozen hx1 i; obtain ⟨w7, st7, hx7, hb7⟩ := st_fn (.func (.func 7) #[] #[]) (by kernel_rfl) hx1; obtain ⟨w8, st8, hx8, hb8⟩ := st_fn (.func (.func 8) #[] #[]) (by kernel_rfl) hx1; have HB7 := Aside0.mk (hb7 _ _ (Nat.le_refl _) HBw.out); have HB8 := Aside0.mk (hb8 _ _ (Nat.le_refl _) HBw.out); have c70 := (blk_cell hx7 0).trans rfl; have c71 := (blk_cell hx7 1).trans rfl; have c72 := (blk_cell hx7 2).trans rfl; have c80 := (blk_cell hx8 0).trans rfl; have c81 := (blk_cell hx8 1).trans rfl; have c82 := (blk_cell hx8 2).trans rfl; clear hx1 hw1 hx7 hx8 hb7 hb8) | (go_at_call 9; refine (HS _ (by first | exact .inl ⟨rfl, rfl⟩ | exact .inr (.inl ⟨rfl, rfl⟩) | exact .inr (.inr ⟨rfl, rfl⟩)) _).out.mono ?_; rintro e w9 ⟨rfl, hb9⟩; have HB9 := Aside0.mk hb9; clear hb9))
    go_ret
    first
      | exact ⟨rfl, HBw.out.trans (HB9.out.mono HBw.out.size)⟩
      | exact ⟨rfl, HB7.out.trans (HB9.out.mono HB7.out.size)⟩
      | exact ⟨rfl, HB8.out.trans (HB9.out.mono HB8.out.size)⟩)
end Go.Proofs.Ytgemoagbefdemaa.UnN
