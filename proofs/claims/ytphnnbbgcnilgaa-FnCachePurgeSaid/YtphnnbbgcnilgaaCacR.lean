/-
  Proved: what removeNode of a cache does to its list. Conditions: an entry of it.
-/
import Derived.Test.YtphnnbbgcnilgaaCacA
namespace Go.Proofs.Ytphnnbbgcnilgaa.CacR
open Go Go.RowKit Go.Proofs.YtphnnbbgcnilgaaW.PrintWords Go.Proofs.Ytphnnbbgcnilgaa.Common Go.Proofs.Ytphnnbbgcnilgaa.IMapN Go.Proofs.Ytphnnbbgcnilgaa.CacA
set_option linter.unusedVariables false
set_option linter.unusedSimpArgs false
set_option maxRecDepth 1000000
set_option maxHeartbeats 4000000 in
theorem rm_one {ev : Value} {C m g : Nat} {sz hits miss k v : Int} {w : World} (hg : w.heap[g]? = some (.cells (#[.int .i64 k, .int .i64 v, .pointer none, .pointer none]) 97 (0, 0))) (hC : w.heap[C]? = some (.cells (#[.int .i64 sz, .map (some m), .pointer (some ⟨g, 0, none⟩), .pointer (some ⟨g, 0, none⟩), ev, .int .i64 hits, .int .i64 miss]) 94 (0, 0))) (n_g_C : g ≠ C) :
    Calls Try.prog 53 #[.pointer (some ⟨C, 0, none⟩), .pointer (some ⟨g, 0, none⟩)] w fun e w' => (∃ u, e = .returned u) ∧ w' = ((((w.setCell ⟨C, 2, none⟩ (.pointer none)).setCell ⟨C, 3, none⟩ (.pointer none)).setCell ⟨g, 2, none⟩ (.pointer none)).setCell ⟨g, 3, none⟩ (.pointer none)) := by
  have n_C_g : C ≠ g := fun e => n_g_C e.symm
  have f2g := blk_frozen hg 2
  have f3g := blk_frozen hg 3
  have f2C := blk_frozen hC 2
  have f3C := blk_frozen hC 3
  have q0_g_2 : w.cell? ⟨g, 2, none⟩ = some (.pointer none) := (blk_cell hg 2).trans rfl
  have q0_g_3 : w.cell? ⟨g, 3, none⟩ = some (.pointer none) := (blk_cell hg 3).trans rfl
  have q0_C_2 : w.cell? ⟨C, 2, none⟩ = some (.pointer (some ⟨g, 0, none⟩)) := (blk_cell hC 2).trans rfl
  have q0_C_3 : w.cell? ⟨C, 3, none⟩ = some (.pointer (some ⟨g, 0, none⟩)) := (blk_cell hC 3).trans rfl
  have F1_g : (w.setCell ⟨C, 2, none⟩ (.pointer none)).heap[g]? = some (.cells (#[.int .i64 k, .int .i64 v, .pointer none, .pointer none]) 97 (0, 0)) := (set_far _ _ _ _ _ n_g_C).trans hg
  have F1_C : (w.setCell ⟨C, 2, none⟩ (.pointer none)).heap[C]? = some (.cells (#[.int .i64 sz, .map (some m), .pointer none, .pointer (some ⟨g, 0, none⟩), ev, .int .i64 hits, .int .i64 miss]) 94 (0, 0)) := (set_blk _ C 2 _ _ _ hC).trans rfl
  have q1_g_2 : (w.setCell ⟨C, 2, none⟩ (.pointer none)).cell? ⟨g, 2, none⟩ = some (.pointer none) := (blk_cell F1_g 2).trans rfl
  have q1_g_3 : (w.setCell ⟨C, 2, none⟩ (.pointer none)).cell? ⟨g, 3, none⟩ = some (.pointer none) := (blk_cell F1_g 3).trans rfl
  have q1_C_2 : (w.setCell ⟨C, 2, none⟩ (.pointer none)).cell? ⟨C, 2, none⟩ = some (.pointer none) := (blk_cell F1_C 2).trans rfl
  have q1_C_3 : (w.setCell ⟨C, 2, none⟩ (.pointer none)).cell? ⟨C, 3, none⟩ = some (.pointer (some ⟨g, 0, none⟩)) := (blk_cell F1_C 3).trans rfl
  have F2_g : ((w.setCell ⟨C, 2, none⟩ (.pointer none)).setCell ⟨C, 3, none⟩ (.pointer none)).heap[g]? = some (.cells (#[.int .i64 k, .int .i64 v, .pointer none, .pointer none]) 97 (0, 0)) := (set_far _ _ _ _ _ n_g_C).trans F1_g
  have F2_C : ((w.setCell ⟨C, 2, none⟩ (.pointer none)).setCell ⟨C, 3, none⟩ (.pointer none)).heap[C]? = some (.cells (#[.int .i64 sz, .map (some m), .pointer none, .pointer none, ev, .int .i64 hits, .int .i64 miss]) 94 (0, 0)) := (set_blk _ C 3 _ _ _ F1_C).trans rfl
  have q2_g_2 : ((w.setCell ⟨C, 2, none⟩ (.pointer none)).setCell ⟨C, 3, none⟩ (.pointer none)).cell? ⟨g, 2, none⟩ = some (.pointer none) := (blk_cell F2_g 2).trans rfl
  have q2_g_3 : ((w.setCell ⟨C, 2, none⟩ (.pointer none)).setCell ⟨C, 3, none⟩ (.pointer none)).cell? ⟨g, 3, none⟩ = some (.pointer none) := (blk_cell F2_g 3).trans rfl
  have q2_C_2 : ((w.setCell ⟨C, 2, none⟩ (.pointer none)).setCell ⟨C, 3, none⟩ (.pointer none)).cell? ⟨C, 2, none⟩ = some (.pointer none) := (blk_cell F2_C 2).trans rfl
  have q2_C_3 : ((w.setCell ⟨C, 2, none⟩ (.pointer none)).setCell ⟨C, 3, none⟩ (.pointer none)).cell? ⟨C, 3, none⟩ = some (.pointer none) := (blk_cell F2_C 3).trans rfl
  have F3_g : (((w.setCell ⟨C, 2, none⟩ (.pointer none)).setCell ⟨C, 3, none⟩ (.pointer none)).setCell ⟨g, 2, none⟩ (.pointer none)).heap[g]? = some (.cells (#[.int .i64 k, .int .i64 v, .pointer none, .pointer none]) 97 (0, 0)) := (set_blk _ g 2 _ _ _ F2_g).trans rfl
  have F3_C : (((w.setCell ⟨C, 2, none⟩ (.pointer none)).setCell ⟨C, 3, none⟩ (.pointer none)).setCell ⟨g, 2, none⟩ (.pointer none)).heap[C]? = some (.cells (#[.int .i64 sz, .map (some m), .pointer none, .pointer none, ev, .int .i64 hits, .int .i64 miss]) 94 (0, 0)) := (set_far _ _ _ _ _ n_C_g).trans F2_C
  have q3_g_2 : (((w.setCell ⟨C, 2, none⟩ (.pointer none)).setCell ⟨C, 3, none⟩ (.pointer none)).setCell ⟨g, 2, none⟩ (.pointer none)).cell? ⟨g, 2, none⟩ = some (.pointer none) := (blk_cell F3_g 2).trans rfl
  have q3_g_3 : (((w.setCell ⟨C, 2, none⟩ (.pointer none)).setCell ⟨C, 3, none⟩ (.pointer none)).setCell ⟨g, 2, none⟩ (.pointer none)).cell? ⟨g, 3, none⟩ = some (.pointer none) := (blk_cell F3_g 3).trans rfl
  have q3_C_2 : (((w.setCell ⟨C, 2, none⟩ (.pointer none)).setCell ⟨C, 3, none⟩ (.pointer none)).setCell ⟨g, 2, none⟩ (.pointer none)).cell? ⟨C, 2, none⟩ = some (.pointer none) := (blk_cell F3_C 2).trans rfl
  have q3_C_3 : (((w.setCell ⟨C, 2, none⟩ (.pointer none)).setCell ⟨C, 3, none⟩ (.pointer none)).setCell ⟨g, 2, none⟩ (.pointer none)).cell? ⟨C, 3, none⟩ = some (.pointer none) := (blk_cell F3_C 3).trans rfl
  have F4_g : ((((w.setCell ⟨C, 2, none⟩ (.pointer none)).setCell ⟨C, 3, none⟩ (.pointer none)).setCell ⟨g, 2, none⟩ (.pointer none)).setCell ⟨g, 3, none⟩ (.pointer none)).heap[g]? = some (.cells (#[.int .i64 k, .int .i64 v, .pointer none, .pointer none]) 97 (0, 0)) := (set_blk _ g 3 _ _ _ F3_g).trans rfl
  have F4_C : ((((w.setCell ⟨C, 2, none⟩ (.pointer none)).setCell ⟨C, 3, none⟩ (.pointer none)).setCell ⟨g, 2, none⟩ (.pointer none)).setCell ⟨g, 3, none⟩ (.pointer none)).heap[C]? = some (.cells (#[.int .i64 sz, .map (some m), .pointer none, .pointer none, ev, .int .i64 hits, .int .i64 miss]) 94 (0, 0)) := (set_far _ _ _ _ _ n_C_g).trans F3_C
  have q4_g_2 : ((((w.setCell ⟨C, 2, none⟩ (.pointer none)).setCell ⟨C, 3, none⟩ (.pointer none)).setCell ⟨g, 2, none⟩ (.pointer none)).setCell ⟨g, 3, none⟩ (.pointer none)).cell? ⟨g, 2, none⟩ = some (.pointer none) := (blk_cell F4_g 2).trans rfl
  have q4_g_3 : ((((w.setCell ⟨C, 2, none⟩ (.pointer none)).setCell ⟨C, 3, none⟩ (.pointer none)).setCell ⟨g, 2, none⟩ (.pointer none)).setCell ⟨g, 3, none⟩ (.pointer none)).cell? ⟨g, 3, none⟩ = some (.pointer none) := (blk_cell F4_g 3).trans rfl
  have q4_C_2 : ((((w.setCell ⟨C, 2, none⟩ (.pointer none)).setCell ⟨C, 3, none⟩ (.pointer none)).setCell ⟨g, 2, none⟩ (.pointer none)).setCell ⟨g, 3, none⟩ (.pointer none)).cell? ⟨C, 2, none⟩ = some (.pointer none) := (blk_cell F4_C 2).trans rfl
  have q4_C_3 : ((((w.setCell ⟨C, 2, none⟩ (.pointer none)).setCell ⟨C, 3, none⟩ (.pointer none)).setCell ⟨g, 2, none⟩ (.pointer none)).setCell ⟨g, 3, none⟩ (.pointer none)).cell? ⟨C, 3, none⟩ = some (.pointer none) := (blk_cell F4_C 3).trans rfl
  clear F1_g F1_C F2_g F2_C F3_g F3_C F4_g F4_C n_g_C n_C_g hg hC
  go_enter Try.func53, Try.ntmps53
  go_wp2
  go_end0
  exact ⟨⟨_, rfl⟩, rfl⟩
theorem rmw_one {ev : Value} {C m g : Nat} {sz hits miss k v : Int} {w : World} (hg : w.heap[g]? = some (.cells (#[.int .i64 k, .int .i64 v, .pointer none, .pointer none]) 97 (0, 0))) (hC : w.heap[C]? = some (.cells (#[.int .i64 sz, .map (some m), .pointer (some ⟨g, 0, none⟩), .pointer (some ⟨g, 0, none⟩), ev, .int .i64 hits, .int .i64 miss]) 94 (0, 0))) (n_g_C : g ≠ C) :
    (((((w.setCell ⟨C, 2, none⟩ (.pointer none)).setCell ⟨C, 3, none⟩ (.pointer none)).setCell ⟨g, 2, none⟩ (.pointer none)).setCell ⟨g, 3, none⟩ (.pointer none))).heap[g]? = some (.cells (#[.int .i64 k, .int .i64 v, .pointer none, .pointer none]) 97 (0, 0)) ∧ (((((w.setCell ⟨C, 2, none⟩ (.pointer none)).setCell ⟨C, 3, none⟩ (.pointer none)).setCell ⟨g, 2, none⟩ (.pointer none)).setCell ⟨g, 3, none⟩ (.pointer none))).heap[C]? = some (.cells (#[.int .i64 sz, .map (some m), .pointer none, .pointer none, ev, .int .i64 hits, .int .i64 miss]) 94 (0, 0)) ∧ (∀ b, b ≠ g → b ≠ C → (((((w.setCell ⟨C, 2, none⟩ (.pointer none)).setCell ⟨C, 3, none⟩ (.pointer none)).setCell ⟨g, 2, none⟩ (.pointer none)).setCell ⟨g, 3, none⟩ (.pointer none))).heap[b]? = w.heap[b]?) ∧ (((((w.setCell ⟨C, 2, none⟩ (.pointer none)).setCell ⟨C, 3, none⟩ (.pointer none)).setCell ⟨g, 2, none⟩ (.pointer none)).setCell ⟨g, 3, none⟩ (.pointer none))).heap.size = w.heap.size ∧ ∀ B w0, Below B w0 w → B ≤ g → B ≤ C → Below B w0 (((((w.setCell ⟨C, 2, none⟩ (.pointer none)).setCell ⟨C, 3, none⟩ (.pointer none)).setCell ⟨g, 2, none⟩ (.pointer none)).setCell ⟨g, 3, none⟩ (.pointer none))) := by
  have n_C_g : C ≠ g := fun e => n_g_C e.symm
  have F1_g : (w.setCell ⟨C, 2, none⟩ (.pointer none)).heap[g]? = some (.cells (#[.int .i64 k, .int .i64 v, .pointer none, .pointer none]) 97 (0, 0)) := (set_far _ _ _ _ _ n_g_C).trans hg
  have F1_C : (w.setCell ⟨C, 2, none⟩ (.pointer none)).heap[C]? = some (.cells (#[.int .i64 sz, .map (some m), .pointer none, .pointer (some ⟨g, 0, none⟩), ev, .int .i64 hits, .int .i64 miss]) 94 (0, 0)) := (set_blk _ C 2 _ _ _ hC).trans rfl
  have F2_g : ((w.setCell ⟨C, 2, none⟩ (.pointer none)).setCell ⟨C, 3, none⟩ (.pointer none)).heap[g]? = some (.cells (#[.int .i64 k, .int .i64 v, .pointer none, .pointer none]) 97 (0, 0)) := (set_far _ _ _ _ _ n_g_C).trans F1_g
  have F2_C : ((w.setCell ⟨C, 2, none⟩ (.pointer none)).setCell ⟨C, 3, none⟩ (.pointer none)).heap[C]? = some (.cells (#[.int .i64 sz, .map (some m), .pointer none, .pointer none, ev, .int .i64 hits, .int .i64 miss]) 94 (0, 0)) := (set_blk _ C 3 _ _ _ F1_C).trans rfl
  have F3_g : (((w.setCell ⟨C, 2, none⟩ (.pointer none)).setCell ⟨C, 3, none⟩ (.pointer none)).setCell ⟨g, 2, none⟩ (.pointer none)).heap[g]? = some (.cells (#[.int .i64 k, .int .i64 v, .pointer none, .pointer none]) 97 (0, 0)) := (set_blk _ g 2 _ _ _ F2_g).trans rfl
  have F3_C : (((w.setCell ⟨C, 2, none⟩ (.pointer none)).setCell ⟨C, 3, none⟩ (.pointer none)).setCell ⟨g, 2, none⟩ (.pointer none)).heap[C]? = some (.cells (#[.int .i64 sz, .map (some m), .pointer none, .pointer none, ev, .int .i64 hits, .int .i64 miss]) 94 (0, 0)) := (set_far _ _ _ _ _ n_C_g).trans F2_C
  have F4_g : ((((w.setCell ⟨C, 2, none⟩ (.pointer none)).setCell ⟨C, 3, none⟩ (.pointer none)).setCell ⟨g, 2, none⟩ (.pointer none)).setCell ⟨g, 3, none⟩ (.pointer none)).heap[g]? = some (.cells (#[.int .i64 k, .int .i64 v, .pointer none, .pointer none]) 97 (0, 0)) := (set_blk _ g 3 _ _ _ F3_g).trans rfl
  have F4_C : ((((w.setCell ⟨C, 2, none⟩ (.pointer none)).setCell ⟨C, 3, none⟩ (.pointer none)).setCell ⟨g, 2, none⟩ (.pointer none)).setCell ⟨g, 3, none⟩ (.pointer none)).heap[C]? = some (.cells (#[.int .i64 sz, .map (some m), .pointer none, .pointer none, ev, .int .i64 hits, .int .i64 miss]) 94 (0, 0)) := (set_far _ _ _ _ _ n_C_g).trans F3_C
  refine ⟨F4_g, F4_C, fun b d_g d_C => ?_, ?_, fun B w0 hB l_g l_C => ?_⟩
  · have e0 : (w.setCell ⟨C, 2, none⟩ (.pointer none)).heap[b]? = w.heap[b]? := set_far _ _ _ _ _ d_C
    have e1 : ((w.setCell ⟨C, 2, none⟩ (.pointer none)).setCell ⟨C, 3, none⟩ (.pointer none)).heap[b]? = (w.setCell ⟨C, 2, none⟩ (.pointer none)).heap[b]? := set_far _ _ _ _ _ d_C
    have e2 : (((w.setCell ⟨C, 2, none⟩ (.pointer none)).setCell ⟨C, 3, none⟩ (.pointer none)).setCell ⟨g, 2, none⟩ (.pointer none)).heap[b]? = ((w.setCell ⟨C, 2, none⟩ (.pointer none)).setCell ⟨C, 3, none⟩ (.pointer none)).heap[b]? := set_far _ _ _ _ _ d_g
    have e3 : ((((w.setCell ⟨C, 2, none⟩ (.pointer none)).setCell ⟨C, 3, none⟩ (.pointer none)).setCell ⟨g, 2, none⟩ (.pointer none)).setCell ⟨g, 3, none⟩ (.pointer none)).heap[b]? = (((w.setCell ⟨C, 2, none⟩ (.pointer none)).setCell ⟨C, 3, none⟩ (.pointer none)).setCell ⟨g, 2, none⟩ (.pointer none)).heap[b]? := set_far _ _ _ _ _ d_g
    exact e3.trans (e2.trans (e1.trans (e0
)))
  · simp only [World.size_drew, World.size_setCell]
  · have e0 : Below B w0 (w.setCell ⟨C, 2, none⟩ (.pointer none)) := hB.setCell l_C _
    have e1 : Below B w0 ((w.setCell ⟨C, 2, none⟩ (.pointer none)).setCell ⟨C, 3, none⟩ (.pointer none)) := e0.setCell l_C _
    have e2 : Below B w0 (((w.setCell ⟨C, 2, none⟩ (.pointer none)).setCell ⟨C, 3, none⟩ (.pointer none)).setCell ⟨g, 2, none⟩ (.pointer none)) := e1.setCell l_g _
    have e3 : Below B w0 ((((w.setCell ⟨C, 2, none⟩ (.pointer none)).setCell ⟨C, 3, none⟩ (.pointer none)).setCell ⟨g, 2, none⟩ (.pointer none)).setCell ⟨g, 3, none⟩ (.pointer none)) := e2.setCell l_g _
    exact e3
set_option maxHeartbeats 4000000 in
theorem rm_first {ev : Value} {C m g xb tlx : Nat} {sz hits miss k v bk bv : Int} {nb : Option Nat} {w : World} (hg : w.heap[g]? = some (.cells (#[.int .i64 k, .int .i64 v, .pointer none, .pointer (some ⟨xb, 0, none⟩)]) 97 (0, 0))) (hC : w.heap[C]? = some (.cells (#[.int .i64 sz, .map (some m), .pointer (some ⟨g, 0, none⟩), .pointer (some ⟨tlx, 0, none⟩), ev, .int .i64 hits, .int .i64 miss]) 94 (0, 0))) (hb : w.heap[xb]? = some (.cells (#[.int .i64 bk, .int .i64 bv, .pointer (some ⟨g, 0, none⟩), ptr nb]) 97 (0, 0))) (n_g_C : g ≠ C) (n_g_xb : g ≠ xb) (n_C_xb : C ≠ xb) :
    Calls Try.prog 53 #[.pointer (some ⟨C, 0, none⟩), .pointer (some ⟨g, 0, none⟩)] w fun e w' => (∃ u, e = .returned u) ∧ w' = ((((w.setCell ⟨C, 2, none⟩ (.pointer (some ⟨xb, 0, none⟩))).setCell ⟨xb, 2, none⟩ (.pointer none)).setCell ⟨g, 2, none⟩ (.pointer none)).setCell ⟨g, 3, none⟩ (.pointer none)).drew := by
  have n_C_g : C ≠ g := fun e => n_g_C e.symm
  have n_xb_g : xb ≠ g := fun e => n_g_xb e.symm
  have n_xb_C : xb ≠ C := fun e => n_C_xb e.symm
  have f2g := blk_frozen hg 2
  have f3g := blk_frozen hg 3
  have f2C := blk_frozen hC 2
  have f3C := blk_frozen hC 3
  have f2xb := blk_frozen hb 2
  have f3xb := blk_frozen hb 3
  have q0_g_2 : w.cell? ⟨g, 2, none⟩ = some (.pointer none) := (blk_cell hg 2).trans rfl
  have q0_g_3 : w.cell? ⟨g, 3, none⟩ = some (.pointer (some ⟨xb, 0, none⟩)) := (blk_cell hg 3).trans rfl
  have q0_C_2 : w.cell? ⟨C, 2, none⟩ = some (.pointer (some ⟨g, 0, none⟩)) := (blk_cell hC 2).trans rfl
  have q0_C_3 : w.cell? ⟨C, 3, none⟩ = some (.pointer (some ⟨tlx, 0, none⟩)) := (blk_cell hC 3).trans rfl
  have q0_xb_2 : w.cell? ⟨xb, 2, none⟩ = some (.pointer (some ⟨g, 0, none⟩)) := (blk_cell hb 2).trans rfl
  have q0_xb_3 : w.cell? ⟨xb, 3, none⟩ = some (ptr nb) := (blk_cell hb 3).trans rfl
  have F1_g : (w.setCell ⟨C, 2, none⟩ (.pointer (some ⟨xb, 0, none⟩))).heap[g]? = some (.cells (#[.int .i64 k, .int .i64 v, .pointer none, .pointer (some ⟨xb, 0, none⟩)]) 97 (0, 0)) := (set_far _ _ _ _ _ n_g_C).trans hg
  have F1_C : (w.setCell ⟨C, 2, none⟩ (.pointer (some ⟨xb, 0, none⟩))).heap[C]? = some (.cells (#[.int .i64 sz, .map (some m), .pointer (some ⟨xb, 0, none⟩), .pointer (some ⟨tlx, 0, none⟩), ev, .int .i64 hits, .int .i64 miss]) 94 (0, 0)) := (set_blk _ C 2 _ _ _ hC).trans rfl
  have F1_xb : (w.setCell ⟨C, 2, none⟩ (.pointer (some ⟨xb, 0, none⟩))).heap[xb]? = some (.cells (#[.int .i64 bk, .int .i64 bv, .pointer (some ⟨g, 0, none⟩), ptr nb]) 97 (0, 0)) := (set_far _ _ _ _ _ n_xb_C).trans hb
  have q1_g_2 : (w.setCell ⟨C, 2, none⟩ (.pointer (some ⟨xb, 0, none⟩))).cell? ⟨g, 2, none⟩ = some (.pointer none) := (blk_cell F1_g 2).trans rfl
  have q1_g_3 : (w.setCell ⟨C, 2, none⟩ (.pointer (some ⟨xb, 0, none⟩))).cell? ⟨g, 3, none⟩ = some (.pointer (some ⟨xb, 0, none⟩)) := (blk_cell F1_g 3).trans rfl
  have q1_C_2 : (w.setCell ⟨C, 2, none⟩ (.pointer (some ⟨xb, 0, none⟩))).cell? ⟨C, 2, none⟩ = some (.pointer (some ⟨xb, 0, none⟩)) := (blk_cell F1_C 2).trans rfl
  have q1_C_3 : (w.setCell ⟨C, 2, none⟩ (.pointer (some ⟨xb, 0, none⟩))).cell? ⟨C, 3, none⟩ = some (.pointer (some ⟨tlx, 0, none⟩)) := (blk_cell F1_C 3).trans rfl
  have q1_xb_2 : (w.setCell ⟨C, 2, none⟩ (.pointer (some ⟨xb, 0, none⟩))).cell? ⟨xb, 2, none⟩ = some (.pointer (some ⟨g, 0, none⟩)) := (blk_cell F1_xb 2).trans rfl
  have q1_xb_3 : (w.setCell ⟨C, 2, none⟩ (.pointer (some ⟨xb, 0, none⟩))).cell? ⟨xb, 3, none⟩ = some (ptr nb) := (blk_cell F1_xb 3).trans rfl
  have F2_g : (w.setCell ⟨C, 2, none⟩ (.pointer (some ⟨xb, 0, none⟩))).drew.heap[g]? = some (.cells (#[.int .i64 k, .int .i64 v, .pointer none, .pointer (some ⟨xb, 0, none⟩)]) 97 (0, 0)) := F1_g
  have F2_C : (w.setCell ⟨C, 2, none⟩ (.pointer (some ⟨xb, 0, none⟩))).drew.heap[C]? = some (.cells (#[.int .i64 sz, .map (some m), .pointer (some ⟨xb, 0, none⟩), .pointer (some ⟨tlx, 0, none⟩), ev, .int .i64 hits, .int .i64 miss]) 94 (0, 0)) := F1_C
  have F2_xb : (w.setCell ⟨C, 2, none⟩ (.pointer (some ⟨xb, 0, none⟩))).drew.heap[xb]? = some (.cells (#[.int .i64 bk, .int .i64 bv, .pointer (some ⟨g, 0, none⟩), ptr nb]) 97 (0, 0)) := F1_xb
  have q2_g_2 : (w.setCell ⟨C, 2, none⟩ (.pointer (some ⟨xb, 0, none⟩))).drew.cell? ⟨g, 2, none⟩ = some (.pointer none) := (blk_cell F2_g 2).trans rfl
  have q2_g_3 : (w.setCell ⟨C, 2, none⟩ (.pointer (some ⟨xb, 0, none⟩))).drew.cell? ⟨g, 3, none⟩ = some (.pointer (some ⟨xb, 0, none⟩)) := (blk_cell F2_g 3).trans rfl
  have q2_C_2 : (w.setCell ⟨C, 2, none⟩ (.pointer (some ⟨xb, 0, none⟩))).drew.cell? ⟨C, 2, none⟩ = some (.pointer (some ⟨xb, 0, none⟩)) := (blk_cell F2_C 2).trans rfl
  have q2_C_3 : (w.setCell ⟨C, 2, none⟩ (.pointer (some ⟨xb, 0, none⟩))).drew.cell? ⟨C, 3, none⟩ = some (.pointer (some ⟨tlx, 0, none⟩)) := (blk_cell F2_C 3).trans rfl
  have q2_xb_2 : (w.setCell ⟨C, 2, none⟩ (.pointer (some ⟨xb, 0, none⟩))).drew.cell? ⟨xb, 2, none⟩ = some (.pointer (some ⟨g, 0, none⟩)) := (blk_cell F2_xb 2).trans rfl
  have q2_xb_3 : (w.setCell ⟨C, 2, none⟩ (.pointer (some ⟨xb, 0, none⟩))).drew.cell? ⟨xb, 3, none⟩ = some (ptr nb) := (blk_cell F2_xb 3).trans rfl
  have F3_g : ((w.setCell ⟨C, 2, none⟩ (.pointer (some ⟨xb, 0, none⟩))).setCell ⟨xb, 2, none⟩ (.pointer none)).drew.heap[g]? = some (.cells (#[.int .i64 k, .int .i64 v, .pointer none, .pointer (some ⟨xb, 0, none⟩)]) 97 (0, 0)) := (set_far _ _ _ _ _ n_g_xb).trans F2_g
  have F3_C : ((w.setCell ⟨C, 2, none⟩ (.pointer (some ⟨xb, 0, none⟩))).setCell ⟨xb, 2, none⟩ (.pointer none)).drew.heap[C]? = some (.cells (#[.int .i64 sz, .map (some m), .pointer (some ⟨xb, 0, none⟩), .pointer (some ⟨tlx, 0, none⟩), ev, .int .i64 hits, .int .i64 miss]) 94 (0, 0)) := (set_far _ _ _ _ _ n_C_xb).trans F2_C
  have F3_xb : ((w.setCell ⟨C, 2, none⟩ (.pointer (some ⟨xb, 0, none⟩))).setCell ⟨xb, 2, none⟩ (.pointer none)).drew.heap[xb]? = some (.cells (#[.int .i64 bk, .int .i64 bv, .pointer none, ptr nb]) 97 (0, 0)) := (set_blk _ xb 2 _ _ _ F2_xb).trans rfl
  have q3_g_2 : ((w.setCell ⟨C, 2, none⟩ (.pointer (some ⟨xb, 0, none⟩))).setCell ⟨xb, 2, none⟩ (.pointer none)).drew.cell? ⟨g, 2, none⟩ = some (.pointer none) := (blk_cell F3_g 2).trans rfl
  have q3_g_3 : ((w.setCell ⟨C, 2, none⟩ (.pointer (some ⟨xb, 0, none⟩))).setCell ⟨xb, 2, none⟩ (.pointer none)).drew.cell? ⟨g, 3, none⟩ = some (.pointer (some ⟨xb, 0, none⟩)) := (blk_cell F3_g 3).trans rfl
  have q3_C_2 : ((w.setCell ⟨C, 2, none⟩ (.pointer (some ⟨xb, 0, none⟩))).setCell ⟨xb, 2, none⟩ (.pointer none)).drew.cell? ⟨C, 2, none⟩ = some (.pointer (some ⟨xb, 0, none⟩)) := (blk_cell F3_C 2).trans rfl
  have q3_C_3 : ((w.setCell ⟨C, 2, none⟩ (.pointer (some ⟨xb, 0, none⟩))).setCell ⟨xb, 2, none⟩ (.pointer none)).drew.cell? ⟨C, 3, none⟩ = some (.pointer (some ⟨tlx, 0, none⟩)) := (blk_cell F3_C 3).trans rfl
  have q3_xb_2 : ((w.setCell ⟨C, 2, none⟩ (.pointer (some ⟨xb, 0, none⟩))).setCell ⟨xb, 2, none⟩ (.pointer none)).drew.cell? ⟨xb, 2, none⟩ = some (.pointer none) := (blk_cell F3_xb 2).trans rfl
  have q3_xb_3 : ((w.setCell ⟨C, 2, none⟩ (.pointer (some ⟨xb, 0, none⟩))).setCell ⟨xb, 2, none⟩ (.pointer none)).drew.cell? ⟨xb, 3, none⟩ = some (ptr nb) := (blk_cell F3_xb 3).trans rfl
  have F4_g : (((w.setCell ⟨C, 2, none⟩ (.pointer (some ⟨xb, 0, none⟩))).setCell ⟨xb, 2, none⟩ (.pointer none)).setCell ⟨g, 2, none⟩ (.pointer none)).drew.heap[g]? = some (.cells (#[.int .i64 k, .int .i64 v, .pointer none, .pointer (some ⟨xb, 0, none⟩)]) 97 (0, 0)) := (set_blk _ g 2 _ _ _ F3_g).trans rfl
  have F4_C : (((w.setCell ⟨C, 2, none⟩ (.pointer (some ⟨xb, 0, none⟩))).setCell ⟨xb, 2, none⟩ (.pointer none)).setCell ⟨g, 2, none⟩ (.pointer none)).drew.heap[C]? = some (.cells (#[.int .i64 sz, .map (some m), .pointer (some ⟨xb, 0, none⟩), .pointer (some ⟨tlx, 0, none⟩), ev, .int .i64 hits, .int .i64 miss]) 94 (0, 0)) := (set_far _ _ _ _ _ n_C_g).trans F3_C
  have F4_xb : (((w.setCell ⟨C, 2, none⟩ (.pointer (some ⟨xb, 0, none⟩))).setCell ⟨xb, 2, none⟩ (.pointer none)).setCell ⟨g, 2, none⟩ (.pointer none)).drew.heap[xb]? = some (.cells (#[.int .i64 bk, .int .i64 bv, .pointer none, ptr nb]) 97 (0, 0)) := (set_far _ _ _ _ _ n_xb_g).trans F3_xb
  have q4_g_2 : (((w.setCell ⟨C, 2, none⟩ (.pointer (some ⟨xb, 0, none⟩))).setCell ⟨xb, 2, none⟩ (.pointer none)).setCell ⟨g, 2, none⟩ (.pointer none)).drew.cell? ⟨g, 2, none⟩ = some (.pointer none) := (blk_cell F4_g 2).trans rfl
  have q4_g_3 : (((w.setCell ⟨C, 2, none⟩ (.pointer (some ⟨xb, 0, none⟩))).setCell ⟨xb, 2, none⟩ (.pointer none)).setCell ⟨g, 2, none⟩ (.pointer none)).drew.cell? ⟨g, 3, none⟩ = some (.pointer (some ⟨xb, 0, none⟩)) := (blk_cell F4_g 3).trans rfl
  have q4_C_2 : (((w.setCell ⟨C, 2, none⟩ (.pointer (some ⟨xb, 0, none⟩))).setCell ⟨xb, 2, none⟩ (.pointer none)).setCell ⟨g, 2, none⟩ (.pointer none)).drew.cell? ⟨C, 2, none⟩ = some (.pointer (some ⟨xb, 0, none⟩)) := (blk_cell F4_C 2).trans rfl
  have q4_C_3 : (((w.setCell ⟨C, 2, none⟩ (.pointer (some ⟨xb, 0, none⟩))).setCell ⟨xb, 2, none⟩ (.pointer none)).setCell ⟨g, 2, none⟩ (.pointer none)).drew.cell? ⟨C, 3, none⟩ = some (.pointer (some ⟨tlx, 0, none⟩)) := (blk_cell F4_C 3).trans rfl
  have q4_xb_2 : (((w.setCell ⟨C, 2, none⟩ (.pointer (some ⟨xb, 0, none⟩))).setCell ⟨xb, 2, none⟩ (.pointer none)).setCell ⟨g, 2, none⟩ (.pointer none)).drew.cell? ⟨xb, 2, none⟩ = some (.pointer none) := (blk_cell F4_xb 2).trans rfl
  have q4_xb_3 : (((w.setCell ⟨C, 2, none⟩ (.pointer (some ⟨xb, 0, none⟩))).setCell ⟨xb, 2, none⟩ (.pointer none)).setCell ⟨g, 2, none⟩ (.pointer none)).drew.cell? ⟨xb, 3, none⟩ = some (ptr nb) := (blk_cell F4_xb 3).trans rfl
  have F5_g : ((((w.setCell ⟨C, 2, none⟩ (.pointer (some ⟨xb, 0, none⟩))).setCell ⟨xb, 2, none⟩ (.pointer none)).setCell ⟨g, 2, none⟩ (.pointer none)).setCell ⟨g, 3, none⟩ (.pointer none)).drew.heap[g]? = some (.cells (#[.int .i64 k, .int .i64 v, .pointer none, .pointer none]) 97 (0, 0)) := (set_blk _ g 3 _ _ _ F4_g).trans rfl
  have F5_C : ((((w.setCell ⟨C, 2, none⟩ (.pointer (some ⟨xb, 0, none⟩))).setCell ⟨xb, 2, none⟩ (.pointer none)).setCell ⟨g, 2, none⟩ (.pointer none)).setCell ⟨g, 3, none⟩ (.pointer none)).drew.heap[C]? = some (.cells (#[.int .i64 sz, .map (some m), .pointer (some ⟨xb, 0, none⟩), .pointer (some ⟨tlx, 0, none⟩), ev, .int .i64 hits, .int .i64 miss]) 94 (0, 0)) := (set_far _ _ _ _ _ n_C_g).trans F4_C
  have F5_xb : ((((w.setCell ⟨C, 2, none⟩ (.pointer (some ⟨xb, 0, none⟩))).setCell ⟨xb, 2, none⟩ (.pointer none)).setCell ⟨g, 2, none⟩ (.pointer none)).setCell ⟨g, 3, none⟩ (.pointer none)).drew.heap[xb]? = some (.cells (#[.int .i64 bk, .int .i64 bv, .pointer none, ptr nb]) 97 (0, 0)) := (set_far _ _ _ _ _ n_xb_g).trans F4_xb
  have q5_g_2 : ((((w.setCell ⟨C, 2, none⟩ (.pointer (some ⟨xb, 0, none⟩))).setCell ⟨xb, 2, none⟩ (.pointer none)).setCell ⟨g, 2, none⟩ (.pointer none)).setCell ⟨g, 3, none⟩ (.pointer none)).drew.cell? ⟨g, 2, none⟩ = some (.pointer none) := (blk_cell F5_g 2).trans rfl
  have q5_g_3 : ((((w.setCell ⟨C, 2, none⟩ (.pointer (some ⟨xb, 0, none⟩))).setCell ⟨xb, 2, none⟩ (.pointer none)).setCell ⟨g, 2, none⟩ (.pointer none)).setCell ⟨g, 3, none⟩ (.pointer none)).drew.cell? ⟨g, 3, none⟩ = some (.pointer none) := (blk_cell F5_g 3).trans rfl
  have q5_C_2 : ((((w.setCell ⟨C, 2, none⟩ (.pointer (some ⟨xb, 0, none⟩))).setCell ⟨xb, 2, none⟩ (.pointer none)).setCell ⟨g, 2, none⟩ (.pointer none)).setCell ⟨g, 3, none⟩ (.pointer none)).drew.cell? ⟨C, 2, none⟩ = some (.pointer (some ⟨xb, 0, none⟩)) := (blk_cell F5_C 2).trans rfl
  have q5_C_3 : ((((w.setCell ⟨C, 2, none⟩ (.pointer (some ⟨xb, 0, none⟩))).setCell ⟨xb, 2, none⟩ (.pointer none)).setCell ⟨g, 2, none⟩ (.pointer none)).setCell ⟨g, 3, none⟩ (.pointer none)).drew.cell? ⟨C, 3, none⟩ = some (.pointer (some ⟨tlx, 0, none⟩)) := (blk_cell F5_C 3).trans rfl
  have q5_xb_2 : ((((w.setCell ⟨C, 2, none⟩ (.pointer (some ⟨xb, 0, none⟩))).setCell ⟨xb, 2, none⟩ (.pointer none)).setCell ⟨g, 2, none⟩ (.pointer none)).setCell ⟨g, 3, none⟩ (.pointer none)).drew.cell? ⟨xb, 2, none⟩ = some (.pointer none) := (blk_cell F5_xb 2).trans rfl
  have q5_xb_3 : ((((w.setCell ⟨C, 2, none⟩ (.pointer (some ⟨xb, 0, none⟩))).setCell ⟨xb, 2, none⟩ (.pointer none)).setCell ⟨g, 2, none⟩ (.pointer none)).setCell ⟨g, 3, none⟩ (.pointer none)).drew.cell? ⟨xb, 3, none⟩ = some (ptr nb) := (blk_cell F5_xb 3).trans rfl
  have f1_2_g : World.frozen? (w.setCell ⟨C, 2, none⟩ (.pointer (some ⟨xb, 0, none⟩))) ⟨g, 2, none⟩ = false := blk_frozen F1_g 2
  have f1_3_g : World.frozen? (w.setCell ⟨C, 2, none⟩ (.pointer (some ⟨xb, 0, none⟩))) ⟨g, 3, none⟩ = false := blk_frozen F1_g 3
  have f1_2_C : World.frozen? (w.setCell ⟨C, 2, none⟩ (.pointer (some ⟨xb, 0, none⟩))) ⟨C, 2, none⟩ = false := blk_frozen F1_C 2
  have f1_3_C : World.frozen? (w.setCell ⟨C, 2, none⟩ (.pointer (some ⟨xb, 0, none⟩))) ⟨C, 3, none⟩ = false := blk_frozen F1_C 3
  have f1_2_xb : World.frozen? (w.setCell ⟨C, 2, none⟩ (.pointer (some ⟨xb, 0, none⟩))) ⟨xb, 2, none⟩ = false := blk_frozen F1_xb 2
  have f1_3_xb : World.frozen? (w.setCell ⟨C, 2, none⟩ (.pointer (some ⟨xb, 0, none⟩))) ⟨xb, 3, none⟩ = false := blk_frozen F1_xb 3
  clear F1_g F1_C F1_xb F2_g F2_C F2_xb F3_g F3_C F3_xb F4_g F4_C F4_xb F5_g F5_C F5_xb n_g_C n_g_xb n_C_g n_C_xb n_xb_g n_xb_C hg hC hb
  go_enter Try.func53, Try.ntmps53
  go_wp2
  generalize hW1 : (w.setCell ⟨C, 2, none⟩ (.pointer (some ⟨xb, 0, none⟩))) = W1 at *
  go_still_tail 10, (by kernel_rfl)
  go_wp2
  go_end0
  subst hW1
  exact ⟨⟨_, rfl⟩, rfl⟩
theorem rmw_first {ev : Value} {C m g xb tlx : Nat} {sz hits miss k v bk bv : Int} {nb : Option Nat} {w : World} (hg : w.heap[g]? = some (.cells (#[.int .i64 k, .int .i64 v, .pointer none, .pointer (some ⟨xb, 0, none⟩)]) 97 (0, 0))) (hC : w.heap[C]? = some (.cells (#[.int .i64 sz, .map (some m), .pointer (some ⟨g, 0, none⟩), .pointer (some ⟨tlx, 0, none⟩), ev, .int .i64 hits, .int .i64 miss]) 94 (0, 0))) (hb : w.heap[xb]? = some (.cells (#[.int .i64 bk, .int .i64 bv, .pointer (some ⟨g, 0, none⟩), ptr nb]) 97 (0, 0))) (n_g_C : g ≠ C) (n_g_xb : g ≠ xb) (n_C_xb : C ≠ xb) :
    (((((w.setCell ⟨C, 2, none⟩ (.pointer (some ⟨xb, 0, none⟩))).setCell ⟨xb, 2, none⟩ (.pointer none)).setCell ⟨g, 2, none⟩ (.pointer none)).setCell ⟨g, 3, none⟩ (.pointer none)).drew).heap[g]? = some (.cells (#[.int .i64 k, .int .i64 v, .pointer none, .pointer none]) 97 (0, 0)) ∧ (((((w.setCell ⟨C, 2, none⟩ (.pointer (some ⟨xb, 0, none⟩))).setCell ⟨xb, 2, none⟩ (.pointer none)).setCell ⟨g, 2, none⟩ (.pointer none)).setCell ⟨g, 3, none⟩ (.pointer none)).drew).heap[C]? = some (.cells (#[.int .i64 sz, .map (some m), .pointer (some ⟨xb, 0, none⟩), .pointer (some ⟨tlx, 0, none⟩), ev, .int .i64 hits, .int .i64 miss]) 94 (0, 0)) ∧ (((((w.setCell ⟨C, 2, none⟩ (.pointer (some ⟨xb, 0, none⟩))).setCell ⟨xb, 2, none⟩ (.pointer none)).setCell ⟨g, 2, none⟩ (.pointer none)).setCell ⟨g, 3, none⟩ (.pointer none)).drew).heap[xb]? = some (.cells (#[.int .i64 bk, .int .i64 bv, .pointer none, ptr nb]) 97 (0, 0)) ∧ (∀ b, b ≠ g → b ≠ C → b ≠ xb → (((((w.setCell ⟨C, 2, none⟩ (.pointer (some ⟨xb, 0, none⟩))).setCell ⟨xb, 2, none⟩ (.pointer none)).setCell ⟨g, 2, none⟩ (.pointer none)).setCell ⟨g, 3, none⟩ (.pointer none)).drew).heap[b]? = w.heap[b]?) ∧ (((((w.setCell ⟨C, 2, none⟩ (.pointer (some ⟨xb, 0, none⟩))).setCell ⟨xb, 2, none⟩ (.pointer none)).setCell ⟨g, 2, none⟩ (.pointer none)).setCell ⟨g, 3, none⟩ (.pointer none)).drew).heap.size = w.heap.size ∧ ∀ B w0, Below B w0 w → B ≤ g → B ≤ C → B ≤ xb → Below B w0 (((((w.setCell ⟨C, 2, none⟩ (.pointer (some ⟨xb, 0, none⟩))).setCell ⟨xb, 2, none⟩ (.pointer none)).setCell ⟨g, 2, none⟩ (.pointer none)).setCell ⟨g, 3, none⟩ (.pointer none)).drew) := by
  have n_C_g : C ≠ g := fun e => n_g_C e.symm
  have n_xb_g : xb ≠ g := fun e => n_g_xb e.symm
  have n_xb_C : xb ≠ C := fun e => n_C_xb e.symm
  have F1_g : (w.setCell ⟨C, 2, none⟩ (.pointer (some ⟨xb, 0, none⟩))).heap[g]? = some (.cells (#[.int .i64 k, .int .i64 v, .pointer none, .pointer (some ⟨xb, 0, none⟩)]) 97 (0, 0)) := (set_far _ _ _ _ _ n_g_C).trans hg
  have F1_C : (w.setCell ⟨C, 2, none⟩ (.pointer (some ⟨xb, 0, none⟩))).heap[C]? = some (.cells (#[.int .i64 sz, .map (some m), .pointer (some ⟨xb, 0, none⟩), .pointer (some ⟨tlx, 0, none⟩), ev, .int .i64 hits, .int .i64 miss]) 94 (0, 0)) := (set_blk _ C 2 _ _ _ hC).trans rfl
  have F1_xb : (w.setCell ⟨C, 2, none⟩ (.pointer (some ⟨xb, 0, none⟩))).heap[xb]? = some (.cells (#[.int .i64 bk, .int .i64 bv, .pointer (some ⟨g, 0, none⟩), ptr nb]) 97 (0, 0)) := (set_far _ _ _ _ _ n_xb_C).trans hb
  have F2_g : (w.setCell ⟨C, 2, none⟩ (.pointer (some ⟨xb, 0, none⟩))).drew.heap[g]? = some (.cells (#[.int .i64 k, .int .i64 v, .pointer none, .pointer (some ⟨xb, 0, none⟩)]) 97 (0, 0)) := F1_g
  have F2_C : (w.setCell ⟨C, 2, none⟩ (.pointer (some ⟨xb, 0, none⟩))).drew.heap[C]? = some (.cells (#[.int .i64 sz, .map (some m), .pointer (some ⟨xb, 0, none⟩), .pointer (some ⟨tlx, 0, none⟩), ev, .int .i64 hits, .int .i64 miss]) 94 (0, 0)) := F1_C
  have F2_xb : (w.setCell ⟨C, 2, none⟩ (.pointer (some ⟨xb, 0, none⟩))).drew.heap[xb]? = some (.cells (#[.int .i64 bk, .int .i64 bv, .pointer (some ⟨g, 0, none⟩), ptr nb]) 97 (0, 0)) := F1_xb
  have F3_g : ((w.setCell ⟨C, 2, none⟩ (.pointer (some ⟨xb, 0, none⟩))).setCell ⟨xb, 2, none⟩ (.pointer none)).drew.heap[g]? = some (.cells (#[.int .i64 k, .int .i64 v, .pointer none, .pointer (some ⟨xb, 0, none⟩)]) 97 (0, 0)) := (set_far _ _ _ _ _ n_g_xb).trans F2_g
  have F3_C : ((w.setCell ⟨C, 2, none⟩ (.pointer (some ⟨xb, 0, none⟩))).setCell ⟨xb, 2, none⟩ (.pointer none)).drew.heap[C]? = some (.cells (#[.int .i64 sz, .map (some m), .pointer (some ⟨xb, 0, none⟩), .pointer (some ⟨tlx, 0, none⟩), ev, .int .i64 hits, .int .i64 miss]) 94 (0, 0)) := (set_far _ _ _ _ _ n_C_xb).trans F2_C
  have F3_xb : ((w.setCell ⟨C, 2, none⟩ (.pointer (some ⟨xb, 0, none⟩))).setCell ⟨xb, 2, none⟩ (.pointer none)).drew.heap[xb]? = some (.cells (#[.int .i64 bk, .int .i64 bv, .pointer none, ptr nb]) 97 (0, 0)) := (set_blk _ xb 2 _ _ _ F2_xb).trans rfl
  have F4_g : (((w.setCell ⟨C, 2, none⟩ (.pointer (some ⟨xb, 0, none⟩))).setCell ⟨xb, 2, none⟩ (.pointer none)).setCell ⟨g, 2, none⟩ (.pointer none)).drew.heap[g]? = some (.cells (#[.int .i64 k, .int .i64 v, .pointer none, .pointer (some ⟨xb, 0, none⟩)]) 97 (0, 0)) := (set_blk _ g 2 _ _ _ F3_g).trans rfl
  have F4_C : (((w.setCell ⟨C, 2, none⟩ (.pointer (some ⟨xb, 0, none⟩))).setCell ⟨xb, 2, none⟩ (.pointer none)).setCell ⟨g, 2, none⟩ (.pointer none)).drew.heap[C]? = some (.cells (#[.int .i64 sz, .map (some m), .pointer (some ⟨xb, 0, none⟩), .pointer (some ⟨tlx, 0, none⟩), ev, .int .i64 hits, .int .i64 miss]) 94 (0, 0)) := (set_far _ _ _ _ _ n_C_g).trans F3_C
  have F4_xb : (((w.setCell ⟨C, 2, none⟩ (.pointer (some ⟨xb, 0, none⟩))).setCell ⟨xb, 2, none⟩ (.pointer none)).setCell ⟨g, 2, none⟩ (.pointer none)).drew.heap[xb]? = some (.cells (#[.int .i64 bk, .int .i64 bv, .pointer none, ptr nb]) 97 (0, 0)) := (set_far _ _ _ _ _ n_xb_g).trans F3_xb
  have F5_g : ((((w.setCell ⟨C, 2, none⟩ (.pointer (some ⟨xb, 0, none⟩))).setCell ⟨xb, 2, none⟩ (.pointer none)).setCell ⟨g, 2, none⟩ (.pointer none)).setCell ⟨g, 3, none⟩ (.pointer none)).drew.heap[g]? = some (.cells (#[.int .i64 k, .int .i64 v, .pointer none, .pointer none]) 97 (0, 0)) := (set_blk _ g 3 _ _ _ F4_g).trans rfl
  have F5_C : ((((w.setCell ⟨C, 2, none⟩ (.pointer (some ⟨xb, 0, none⟩))).setCell ⟨xb, 2, none⟩ (.pointer none)).setCell ⟨g, 2, none⟩ (.pointer none)).setCell ⟨g, 3, none⟩ (.pointer none)).drew.heap[C]? = some (.cells (#[.int .i64 sz, .map (some m), .pointer (some ⟨xb, 0, none⟩), .pointer (some ⟨tlx, 0, none⟩), ev, .int .i64 hits, .int .i64 miss]) 94 (0, 0)) := (set_far _ _ _ _ _ n_C_g).trans F4_C
  have F5_xb : ((((w.setCell ⟨C, 2, none⟩ (.pointer (some ⟨xb, 0, none⟩))).setCell ⟨xb, 2, none⟩ (.pointer none)).setCell ⟨g, 2, none⟩ (.pointer none)).setCell ⟨g, 3, none⟩ (.pointer none)).drew.heap[xb]? = some (.cells (#[.int .i64 bk, .int .i64 bv, .pointer none, ptr nb]) 97 (0, 0)) := (set_far _ _ _ _ _ n_xb_g).trans F4_xb
  refine ⟨F5_g, F5_C, F5_xb, fun b d_g d_C d_xb => ?_, ?_, fun B w0 hB l_g l_C l_xb => ?_⟩
  · have e0 : (w.setCell ⟨C, 2, none⟩ (.pointer (some ⟨xb, 0, none⟩))).heap[b]? = w.heap[b]? := set_far _ _ _ _ _ d_C
    have e1 : (w.setCell ⟨C, 2, none⟩ (.pointer (some ⟨xb, 0, none⟩))).heap[b]? = (w.setCell ⟨C, 2, none⟩ (.pointer (some ⟨xb, 0, none⟩))).heap[b]? := rfl
    have e2 : ((w.setCell ⟨C, 2, none⟩ (.pointer (some ⟨xb, 0, none⟩))).setCell ⟨xb, 2, none⟩ (.pointer none)).heap[b]? = (w.setCell ⟨C, 2, none⟩ (.pointer (some ⟨xb, 0, none⟩))).heap[b]? := set_far _ _ _ _ _ d_xb
    have e3 : (((w.setCell ⟨C, 2, none⟩ (.pointer (some ⟨xb, 0, none⟩))).setCell ⟨xb, 2, none⟩ (.pointer none)).setCell ⟨g, 2, none⟩ (.pointer none)).heap[b]? = ((w.setCell ⟨C, 2, none⟩ (.pointer (some ⟨xb, 0, none⟩))).setCell ⟨xb, 2, none⟩ (.pointer none)).heap[b]? := set_far _ _ _ _ _ d_g
    have e4 : ((((w.setCell ⟨C, 2, none⟩ (.pointer (some ⟨xb, 0, none⟩))).setCell ⟨xb, 2, none⟩ (.pointer none)).setCell ⟨g, 2, none⟩ (.pointer none)).setCell ⟨g, 3, none⟩ (.pointer none)).heap[b]? = (((w.setCell ⟨C, 2, none⟩ (.pointer (some ⟨xb, 0, none⟩))).setCell ⟨xb, 2, none⟩ (.pointer none)).setCell ⟨g, 2, none⟩ (.pointer none)).heap[b]? := set_far _ _ _ _ _ d_g
    have ed : ∀ W : World, W.drew.heap = W.heap := fun _ => rfl
    rw [ed]
    exact e4.trans (e3.trans (e2.trans (e1.trans (e0
))))
  · simp only [World.size_drew, World.size_setCell]
  · have e0 : Below B w0 (w.setCell ⟨C, 2, none⟩ (.pointer (some ⟨xb, 0, none⟩))) := hB.setCell l_C _
    have e1 : Below B w0 (w.setCell ⟨C, 2, none⟩ (.pointer (some ⟨xb, 0, none⟩))) := e0
    have e2 : Below B w0 ((w.setCell ⟨C, 2, none⟩ (.pointer (some ⟨xb, 0, none⟩))).setCell ⟨xb, 2, none⟩ (.pointer none)) := e1.setCell l_xb _
    have e3 : Below B w0 (((w.setCell ⟨C, 2, none⟩ (.pointer (some ⟨xb, 0, none⟩))).setCell ⟨xb, 2, none⟩ (.pointer none)).setCell ⟨g, 2, none⟩ (.pointer none)) := e2.setCell l_g _
    have e4 : Below B w0 ((((w.setCell ⟨C, 2, none⟩ (.pointer (some ⟨xb, 0, none⟩))).setCell ⟨xb, 2, none⟩ (.pointer none)).setCell ⟨g, 2, none⟩ (.pointer none)).setCell ⟨g, 3, none⟩ (.pointer none)) := e3.setCell l_g _
    exact e4.drew
set_option maxHeartbeats 4000000 in
theorem rm_last {ev : Value} {C m g xa hdx : Nat} {sz hits miss k v ak av : Int} {pa : Option Nat} {w : World} (hg : w.heap[g]? = some (.cells (#[.int .i64 k, .int .i64 v, .pointer (some ⟨xa, 0, none⟩), .pointer none]) 97 (0, 0))) (hC : w.heap[C]? = some (.cells (#[.int .i64 sz, .map (some m), .pointer (some ⟨hdx, 0, none⟩), .pointer (some ⟨g, 0, none⟩), ev, .int .i64 hits, .int .i64 miss]) 94 (0, 0))) (ha : w.heap[xa]? = some (.cells (#[.int .i64 ak, .int .i64 av, ptr pa, .pointer (some ⟨g, 0, none⟩)]) 97 (0, 0))) (n_g_C : g ≠ C) (n_g_xa : g ≠ xa) (n_C_xa : C ≠ xa) :
    Calls Try.prog 53 #[.pointer (some ⟨C, 0, none⟩), .pointer (some ⟨g, 0, none⟩)] w fun e w' => (∃ u, e = .returned u) ∧ w' = ((((w.setCell ⟨xa, 3, none⟩ (.pointer none)).setCell ⟨C, 3, none⟩ (.pointer (some ⟨xa, 0, none⟩))).setCell ⟨g, 2, none⟩ (.pointer none)).setCell ⟨g, 3, none⟩ (.pointer none)).drew := by
  have n_C_g : C ≠ g := fun e => n_g_C e.symm
  have n_xa_g : xa ≠ g := fun e => n_g_xa e.symm
  have n_xa_C : xa ≠ C := fun e => n_C_xa e.symm
  have f2g := blk_frozen hg 2
  have f3g := blk_frozen hg 3
  have f2C := blk_frozen hC 2
  have f3C := blk_frozen hC 3
  have f2xa := blk_frozen ha 2
  have f3xa := blk_frozen ha 3
  have q0_g_2 : w.cell? ⟨g, 2, none⟩ = some (.pointer (some ⟨xa, 0, none⟩)) := (blk_cell hg 2).trans rfl
  have q0_g_3 : w.cell? ⟨g, 3, none⟩ = some (.pointer none) := (blk_cell hg 3).trans rfl
  have q0_C_2 : w.cell? ⟨C, 2, none⟩ = some (.pointer (some ⟨hdx, 0, none⟩)) := (blk_cell hC 2).trans rfl
  have q0_C_3 : w.cell? ⟨C, 3, none⟩ = some (.pointer (some ⟨g, 0, none⟩)) := (blk_cell hC 3).trans rfl
  have q0_xa_2 : w.cell? ⟨xa, 2, none⟩ = some (ptr pa) := (blk_cell ha 2).trans rfl
  have q0_xa_3 : w.cell? ⟨xa, 3, none⟩ = some (.pointer (some ⟨g, 0, none⟩)) := (blk_cell ha 3).trans rfl
  have F1_g : w.drew.heap[g]? = some (.cells (#[.int .i64 k, .int .i64 v, .pointer (some ⟨xa, 0, none⟩), .pointer none]) 97 (0, 0)) := hg
  have F1_C : w.drew.heap[C]? = some (.cells (#[.int .i64 sz, .map (some m), .pointer (some ⟨hdx, 0, none⟩), .pointer (some ⟨g, 0, none⟩), ev, .int .i64 hits, .int .i64 miss]) 94 (0, 0)) := hC
  have F1_xa : w.drew.heap[xa]? = some (.cells (#[.int .i64 ak, .int .i64 av, ptr pa, .pointer (some ⟨g, 0, none⟩)]) 97 (0, 0)) := ha
  have q1_g_2 : w.drew.cell? ⟨g, 2, none⟩ = some (.pointer (some ⟨xa, 0, none⟩)) := (blk_cell F1_g 2).trans rfl
  have q1_g_3 : w.drew.cell? ⟨g, 3, none⟩ = some (.pointer none) := (blk_cell F1_g 3).trans rfl
  have q1_C_2 : w.drew.cell? ⟨C, 2, none⟩ = some (.pointer (some ⟨hdx, 0, none⟩)) := (blk_cell F1_C 2).trans rfl
  have q1_C_3 : w.drew.cell? ⟨C, 3, none⟩ = some (.pointer (some ⟨g, 0, none⟩)) := (blk_cell F1_C 3).trans rfl
  have q1_xa_2 : w.drew.cell? ⟨xa, 2, none⟩ = some (ptr pa) := (blk_cell F1_xa 2).trans rfl
  have q1_xa_3 : w.drew.cell? ⟨xa, 3, none⟩ = some (.pointer (some ⟨g, 0, none⟩)) := (blk_cell F1_xa 3).trans rfl
  have F2_g : (w.setCell ⟨xa, 3, none⟩ (.pointer none)).drew.heap[g]? = some (.cells (#[.int .i64 k, .int .i64 v, .pointer (some ⟨xa, 0, none⟩), .pointer none]) 97 (0, 0)) := (set_far _ _ _ _ _ n_g_xa).trans F1_g
  have F2_C : (w.setCell ⟨xa, 3, none⟩ (.pointer none)).drew.heap[C]? = some (.cells (#[.int .i64 sz, .map (some m), .pointer (some ⟨hdx, 0, none⟩), .pointer (some ⟨g, 0, none⟩), ev, .int .i64 hits, .int .i64 miss]) 94 (0, 0)) := (set_far _ _ _ _ _ n_C_xa).trans F1_C
  have F2_xa : (w.setCell ⟨xa, 3, none⟩ (.pointer none)).drew.heap[xa]? = some (.cells (#[.int .i64 ak, .int .i64 av, ptr pa, .pointer none]) 97 (0, 0)) := (set_blk _ xa 3 _ _ _ F1_xa).trans rfl
  have q2_g_2 : (w.setCell ⟨xa, 3, none⟩ (.pointer none)).drew.cell? ⟨g, 2, none⟩ = some (.pointer (some ⟨xa, 0, none⟩)) := (blk_cell F2_g 2).trans rfl
  have q2_g_3 : (w.setCell ⟨xa, 3, none⟩ (.pointer none)).drew.cell? ⟨g, 3, none⟩ = some (.pointer none) := (blk_cell F2_g 3).trans rfl
  have q2_C_2 : (w.setCell ⟨xa, 3, none⟩ (.pointer none)).drew.cell? ⟨C, 2, none⟩ = some (.pointer (some ⟨hdx, 0, none⟩)) := (blk_cell F2_C 2).trans rfl
  have q2_C_3 : (w.setCell ⟨xa, 3, none⟩ (.pointer none)).drew.cell? ⟨C, 3, none⟩ = some (.pointer (some ⟨g, 0, none⟩)) := (blk_cell F2_C 3).trans rfl
  have q2_xa_2 : (w.setCell ⟨xa, 3, none⟩ (.pointer none)).drew.cell? ⟨xa, 2, none⟩ = some (ptr pa) := (blk_cell F2_xa 2).trans rfl
  have q2_xa_3 : (w.setCell ⟨xa, 3, none⟩ (.pointer none)).drew.cell? ⟨xa, 3, none⟩ = some (.pointer none) := (blk_cell F2_xa 3).trans rfl
  have F3_g : ((w.setCell ⟨xa, 3, none⟩ (.pointer none)).setCell ⟨C, 3, none⟩ (.pointer (some ⟨xa, 0, none⟩))).drew.heap[g]? = some (.cells (#[.int .i64 k, .int .i64 v, .pointer (some ⟨xa, 0, none⟩), .pointer none]) 97 (0, 0)) := (set_far _ _ _ _ _ n_g_C).trans F2_g
  have F3_C : ((w.setCell ⟨xa, 3, none⟩ (.pointer none)).setCell ⟨C, 3, none⟩ (.pointer (some ⟨xa, 0, none⟩))).drew.heap[C]? = some (.cells (#[.int .i64 sz, .map (some m), .pointer (some ⟨hdx, 0, none⟩), .pointer (some ⟨xa, 0, none⟩), ev, .int .i64 hits, .int .i64 miss]) 94 (0, 0)) := (set_blk _ C 3 _ _ _ F2_C).trans rfl
  have F3_xa : ((w.setCell ⟨xa, 3, none⟩ (.pointer none)).setCell ⟨C, 3, none⟩ (.pointer (some ⟨xa, 0, none⟩))).drew.heap[xa]? = some (.cells (#[.int .i64 ak, .int .i64 av, ptr pa, .pointer none]) 97 (0, 0)) := (set_far _ _ _ _ _ n_xa_C).trans F2_xa
  have q3_g_2 : ((w.setCell ⟨xa, 3, none⟩ (.pointer none)).setCell ⟨C, 3, none⟩ (.pointer (some ⟨xa, 0, none⟩))).drew.cell? ⟨g, 2, none⟩ = some (.pointer (some ⟨xa, 0, none⟩)) := (blk_cell F3_g 2).trans rfl
  have q3_g_3 : ((w.setCell ⟨xa, 3, none⟩ (.pointer none)).setCell ⟨C, 3, none⟩ (.pointer (some ⟨xa, 0, none⟩))).drew.cell? ⟨g, 3, none⟩ = some (.pointer none) := (blk_cell F3_g 3).trans rfl
  have q3_C_2 : ((w.setCell ⟨xa, 3, none⟩ (.pointer none)).setCell ⟨C, 3, none⟩ (.pointer (some ⟨xa, 0, none⟩))).drew.cell? ⟨C, 2, none⟩ = some (.pointer (some ⟨hdx, 0, none⟩)) := (blk_cell F3_C 2).trans rfl
  have q3_C_3 : ((w.setCell ⟨xa, 3, none⟩ (.pointer none)).setCell ⟨C, 3, none⟩ (.pointer (some ⟨xa, 0, none⟩))).drew.cell? ⟨C, 3, none⟩ = some (.pointer (some ⟨xa, 0, none⟩)) := (blk_cell F3_C 3).trans rfl
  have q3_xa_2 : ((w.setCell ⟨xa, 3, none⟩ (.pointer none)).setCell ⟨C, 3, none⟩ (.pointer (some ⟨xa, 0, none⟩))).drew.cell? ⟨xa, 2, none⟩ = some (ptr pa) := (blk_cell F3_xa 2).trans rfl
  have q3_xa_3 : ((w.setCell ⟨xa, 3, none⟩ (.pointer none)).setCell ⟨C, 3, none⟩ (.pointer (some ⟨xa, 0, none⟩))).drew.cell? ⟨xa, 3, none⟩ = some (.pointer none) := (blk_cell F3_xa 3).trans rfl
  have F4_g : (((w.setCell ⟨xa, 3, none⟩ (.pointer none)).setCell ⟨C, 3, none⟩ (.pointer (some ⟨xa, 0, none⟩))).setCell ⟨g, 2, none⟩ (.pointer none)).drew.heap[g]? = some (.cells (#[.int .i64 k, .int .i64 v, .pointer none, .pointer none]) 97 (0, 0)) := (set_blk _ g 2 _ _ _ F3_g).trans rfl
  have F4_C : (((w.setCell ⟨xa, 3, none⟩ (.pointer none)).setCell ⟨C, 3, none⟩ (.pointer (some ⟨xa, 0, none⟩))).setCell ⟨g, 2, none⟩ (.pointer none)).drew.heap[C]? = some (.cells (#[.int .i64 sz, .map (some m), .pointer (some ⟨hdx, 0, none⟩), .pointer (some ⟨xa, 0, none⟩), ev, .int .i64 hits, .int .i64 miss]) 94 (0, 0)) := (set_far _ _ _ _ _ n_C_g).trans F3_C
  have F4_xa : (((w.setCell ⟨xa, 3, none⟩ (.pointer none)).setCell ⟨C, 3, none⟩ (.pointer (some ⟨xa, 0, none⟩))).setCell ⟨g, 2, none⟩ (.pointer none)).drew.heap[xa]? = some (.cells (#[.int .i64 ak, .int .i64 av, ptr pa, .pointer none]) 97 (0, 0)) := (set_far _ _ _ _ _ n_xa_g).trans F3_xa
  have q4_g_2 : (((w.setCell ⟨xa, 3, none⟩ (.pointer none)).setCell ⟨C, 3, none⟩ (.pointer (some ⟨xa, 0, none⟩))).setCell ⟨g, 2, none⟩ (.pointer none)).drew.cell? ⟨g, 2, none⟩ = some (.pointer none) := (blk_cell F4_g 2).trans rfl
  have q4_g_3 : (((w.setCell ⟨xa, 3, none⟩ (.pointer none)).setCell ⟨C, 3, none⟩ (.pointer (some ⟨xa, 0, none⟩))).setCell ⟨g, 2, none⟩ (.pointer none)).drew.cell? ⟨g, 3, none⟩ = some (.pointer none) := (blk_cell F4_g 3).trans rfl
  have q4_C_2 : (((w.setCell ⟨xa, 3, none⟩ (.pointer none)).setCell ⟨C, 3, none⟩ (.pointer (some ⟨xa, 0, none⟩))).setCell ⟨g, 2, none⟩ (.pointer none)).drew.cell? ⟨C, 2, none⟩ = some (.pointer (some ⟨hdx, 0, none⟩)) := (blk_cell F4_C 2).trans rfl
  have q4_C_3 : (((w.setCell ⟨xa, 3, none⟩ (.pointer none)).setCell ⟨C, 3, none⟩ (.pointer (some ⟨xa, 0, none⟩))).setCell ⟨g, 2, none⟩ (.pointer none)).drew.cell? ⟨C, 3, none⟩ = some (.pointer (some ⟨xa, 0, none⟩)) := (blk_cell F4_C 3).trans rfl
  have q4_xa_2 : (((w.setCell ⟨xa, 3, none⟩ (.pointer none)).setCell ⟨C, 3, none⟩ (.pointer (some ⟨xa, 0, none⟩))).setCell ⟨g, 2, none⟩ (.pointer none)).drew.cell? ⟨xa, 2, none⟩ = some (ptr pa) := (blk_cell F4_xa 2).trans rfl
  have q4_xa_3 : (((w.setCell ⟨xa, 3, none⟩ (.pointer none)).setCell ⟨C, 3, none⟩ (.pointer (some ⟨xa, 0, none⟩))).setCell ⟨g, 2, none⟩ (.pointer none)).drew.cell? ⟨xa, 3, none⟩ = some (.pointer none) := (blk_cell F4_xa 3).trans rfl
  have F5_g : ((((w.setCell ⟨xa, 3, none⟩ (.pointer none)).setCell ⟨C, 3, none⟩ (.pointer (some ⟨xa, 0, none⟩))).setCell ⟨g, 2, none⟩ (.pointer none)).setCell ⟨g, 3, none⟩ (.pointer none)).drew.heap[g]? = some (.cells (#[.int .i64 k, .int .i64 v, .pointer none, .pointer none]) 97 (0, 0)) := (set_blk _ g 3 _ _ _ F4_g).trans rfl
  have F5_C : ((((w.setCell ⟨xa, 3, none⟩ (.pointer none)).setCell ⟨C, 3, none⟩ (.pointer (some ⟨xa, 0, none⟩))).setCell ⟨g, 2, none⟩ (.pointer none)).setCell ⟨g, 3, none⟩ (.pointer none)).drew.heap[C]? = some (.cells (#[.int .i64 sz, .map (some m), .pointer (some ⟨hdx, 0, none⟩), .pointer (some ⟨xa, 0, none⟩), ev, .int .i64 hits, .int .i64 miss]) 94 (0, 0)) := (set_far _ _ _ _ _ n_C_g).trans F4_C
  have F5_xa : ((((w.setCell ⟨xa, 3, none⟩ (.pointer none)).setCell ⟨C, 3, none⟩ (.pointer (some ⟨xa, 0, none⟩))).setCell ⟨g, 2, none⟩ (.pointer none)).setCell ⟨g, 3, none⟩ (.pointer none)).drew.heap[xa]? = some (.cells (#[.int .i64 ak, .int .i64 av, ptr pa, .pointer none]) 97 (0, 0)) := (set_far _ _ _ _ _ n_xa_g).trans F4_xa
  have q5_g_2 : ((((w.setCell ⟨xa, 3, none⟩ (.pointer none)).setCell ⟨C, 3, none⟩ (.pointer (some ⟨xa, 0, none⟩))).setCell ⟨g, 2, none⟩ (.pointer none)).setCell ⟨g, 3, none⟩ (.pointer none)).drew.cell? ⟨g, 2, none⟩ = some (.pointer none) := (blk_cell F5_g 2).trans rfl
  have q5_g_3 : ((((w.setCell ⟨xa, 3, none⟩ (.pointer none)).setCell ⟨C, 3, none⟩ (.pointer (some ⟨xa, 0, none⟩))).setCell ⟨g, 2, none⟩ (.pointer none)).setCell ⟨g, 3, none⟩ (.pointer none)).drew.cell? ⟨g, 3, none⟩ = some (.pointer none) := (blk_cell F5_g 3).trans rfl
  have q5_C_2 : ((((w.setCell ⟨xa, 3, none⟩ (.pointer none)).setCell ⟨C, 3, none⟩ (.pointer (some ⟨xa, 0, none⟩))).setCell ⟨g, 2, none⟩ (.pointer none)).setCell ⟨g, 3, none⟩ (.pointer none)).drew.cell? ⟨C, 2, none⟩ = some (.pointer (some ⟨hdx, 0, none⟩)) := (blk_cell F5_C 2).trans rfl
  have q5_C_3 : ((((w.setCell ⟨xa, 3, none⟩ (.pointer none)).setCell ⟨C, 3, none⟩ (.pointer (some ⟨xa, 0, none⟩))).setCell ⟨g, 2, none⟩ (.pointer none)).setCell ⟨g, 3, none⟩ (.pointer none)).drew.cell? ⟨C, 3, none⟩ = some (.pointer (some ⟨xa, 0, none⟩)) := (blk_cell F5_C 3).trans rfl
  have q5_xa_2 : ((((w.setCell ⟨xa, 3, none⟩ (.pointer none)).setCell ⟨C, 3, none⟩ (.pointer (some ⟨xa, 0, none⟩))).setCell ⟨g, 2, none⟩ (.pointer none)).setCell ⟨g, 3, none⟩ (.pointer none)).drew.cell? ⟨xa, 2, none⟩ = some (ptr pa) := (blk_cell F5_xa 2).trans rfl
  have q5_xa_3 : ((((w.setCell ⟨xa, 3, none⟩ (.pointer none)).setCell ⟨C, 3, none⟩ (.pointer (some ⟨xa, 0, none⟩))).setCell ⟨g, 2, none⟩ (.pointer none)).setCell ⟨g, 3, none⟩ (.pointer none)).drew.cell? ⟨xa, 3, none⟩ = some (.pointer none) := (blk_cell F5_xa 3).trans rfl
  clear F1_g F1_C F1_xa F2_g F2_C F2_xa F3_g F3_C F3_xa F4_g F4_C F4_xa F5_g F5_C F5_xa n_g_C n_g_xa n_C_g n_C_xa n_xa_g n_xa_C hg hC ha
  go_enter Try.func53, Try.ntmps53
  go_wp2
  go_still_tail 10, (by kernel_rfl)
  go_wp2
  go_end0
  exact ⟨⟨_, rfl⟩, rfl⟩
theorem rmw_last {ev : Value} {C m g xa hdx : Nat} {sz hits miss k v ak av : Int} {pa : Option Nat} {w : World} (hg : w.heap[g]? = some (.cells (#[.int .i64 k, .int .i64 v, .pointer (some ⟨xa, 0, none⟩), .pointer none]) 97 (0, 0))) (hC : w.heap[C]? = some (.cells (#[.int .i64 sz, .map (some m), .pointer (some ⟨hdx, 0, none⟩), .pointer (some ⟨g, 0, none⟩), ev, .int .i64 hits, .int .i64 miss]) 94 (0, 0))) (ha : w.heap[xa]? = some (.cells (#[.int .i64 ak, .int .i64 av, ptr pa, .pointer (some ⟨g, 0, none⟩)]) 97 (0, 0))) (n_g_C : g ≠ C) (n_g_xa : g ≠ xa) (n_C_xa : C ≠ xa) :
    (((((w.setCell ⟨xa, 3, none⟩ (.pointer none)).setCell ⟨C, 3, none⟩ (.pointer (some ⟨xa, 0, none⟩))).setCell ⟨g, 2, none⟩ (.pointer none)).setCell ⟨g, 3, none⟩ (.pointer none)).drew).heap[g]? = some (.cells (#[.int .i64 k, .int .i64 v, .pointer none, .pointer none]) 97 (0, 0)) ∧ (((((w.setCell ⟨xa, 3, none⟩ (.pointer none)).setCell ⟨C, 3, none⟩ (.pointer (some ⟨xa, 0, none⟩))).setCell ⟨g, 2, none⟩ (.pointer none)).setCell ⟨g, 3, none⟩ (.pointer none)).drew).heap[C]? = some (.cells (#[.int .i64 sz, .map (some m), .pointer (some ⟨hdx, 0, none⟩), .pointer (some ⟨xa, 0, none⟩), ev, .int .i64 hits, .int .i64 miss]) 94 (0, 0)) ∧ (((((w.setCell ⟨xa, 3, none⟩ (.pointer none)).setCell ⟨C, 3, none⟩ (.pointer (some ⟨xa, 0, none⟩))).setCell ⟨g, 2, none⟩ (.pointer none)).setCell ⟨g, 3, none⟩ (.pointer none)).drew).heap[xa]? = some (.cells (#[.int .i64 ak, .int .i64 av, ptr pa, .pointer none]) 97 (0, 0)) ∧ (∀ b, b ≠ g → b ≠ C → b ≠ xa → (((((w.setCell ⟨xa, 3, none⟩ (.pointer none)).setCell ⟨C, 3, none⟩ (.pointer (some ⟨xa, 0, none⟩))).setCell ⟨g, 2, none⟩ (.pointer none)).setCell ⟨g, 3, none⟩ (.pointer none)).drew).heap[b]? = w.heap[b]?) ∧ (((((w.setCell ⟨xa, 3, none⟩ (.pointer none)).setCell ⟨C, 3, none⟩ (.pointer (some ⟨xa, 0, none⟩))).setCell ⟨g, 2, none⟩ (.pointer none)).setCell ⟨g, 3, none⟩ (.pointer none)).drew).heap.size = w.heap.size ∧ ∀ B w0, Below B w0 w → B ≤ g → B ≤ C → B ≤ xa → Below B w0 (((((w.setCell ⟨xa, 3, none⟩ (.pointer none)).setCell ⟨C, 3, none⟩ (.pointer (some ⟨xa, 0, none⟩))).setCell ⟨g, 2, none⟩ (.pointer none)).setCell ⟨g, 3, none⟩ (.pointer none)).drew) := by
  have n_C_g : C ≠ g := fun e => n_g_C e.symm
  have n_xa_g : xa ≠ g := fun e => n_g_xa e.symm
  have n_xa_C : xa ≠ C := fun e => n_C_xa e.symm
  have F1_g : w.drew.heap[g]? = some (.cells (#[.int .i64 k, .int .i64 v, .pointer (some ⟨xa, 0, none⟩), .pointer none]) 97 (0, 0)) := hg
  have F1_C : w.drew.heap[C]? = some (.cells (#[.int .i64 sz, .map (some m), .pointer (some ⟨hdx, 0, none⟩), .pointer (some ⟨g, 0, none⟩), ev, .int .i64 hits, .int .i64 miss]) 94 (0, 0)) := hC
  have F1_xa : w.drew.heap[xa]? = some (.cells (#[.int .i64 ak, .int .i64 av, ptr pa, .pointer (some ⟨g, 0, none⟩)]) 97 (0, 0)) := ha
  have F2_g : (w.setCell ⟨xa, 3, none⟩ (.pointer none)).drew.heap[g]? = some (.cells (#[.int .i64 k, .int .i64 v, .pointer (some ⟨xa, 0, none⟩), .pointer none]) 97 (0, 0)) := (set_far _ _ _ _ _ n_g_xa).trans F1_g
  have F2_C : (w.setCell ⟨xa, 3, none⟩ (.pointer none)).drew.heap[C]? = some (.cells (#[.int .i64 sz, .map (some m), .pointer (some ⟨hdx, 0, none⟩), .pointer (some ⟨g, 0, none⟩), ev, .int .i64 hits, .int .i64 miss]) 94 (0, 0)) := (set_far _ _ _ _ _ n_C_xa).trans F1_C
  have F2_xa : (w.setCell ⟨xa, 3, none⟩ (.pointer none)).drew.heap[xa]? = some (.cells (#[.int .i64 ak, .int .i64 av, ptr pa, .pointer none]) 97 (0, 0)) := (set_blk _ xa 3 _ _ _ F1_xa).trans rfl
  have F3_g : ((w.setCell ⟨xa, 3, none⟩ (.pointer none)).setCell ⟨C, 3, none⟩ (.pointer (some ⟨xa, 0, none⟩))).drew.heap[g]? = some (.cells (#[.int .i64 k, .int .i64 v, .pointer (some ⟨xa, 0, none⟩), .pointer none]) 97 (0, 0)) := (set_far _ _ _ _ _ n_g_C).trans F2_g
  have F3_C : ((w.setCell ⟨xa, 3, none⟩ (.pointer none)).setCell ⟨C, 3, none⟩ (.pointer (some ⟨xa, 0, none⟩))).drew.heap[C]? = some (.cells (#[.int .i64 sz, .map (some m), .pointer (some ⟨hdx, 0, none⟩), .pointer (some ⟨xa, 0, none⟩), ev, .int .i64 hits, .int .i64 miss]) 94 (0, 0)) := (set_blk _ C 3 _ _ _ F2_C).trans rfl
  have F3_xa : ((w.setCell ⟨xa, 3, none⟩ (.pointer none)).setCell ⟨C, 3, none⟩ (.pointer (some ⟨xa, 0, none⟩))).drew.heap[xa]? = some (.cells (#[.int .i64 ak, .int .i64 av, ptr pa, .pointer none]) 97 (0, 0)) := (set_far _ _ _ _ _ n_xa_C).trans F2_xa
  have F4_g : (((w.setCell ⟨xa, 3, none⟩ (.pointer none)).setCell ⟨C, 3, none⟩ (.pointer (some ⟨xa, 0, none⟩))).setCell ⟨g, 2, none⟩ (.pointer none)).drew.heap[g]? = some (.cells (#[.int .i64 k, .int .i64 v, .pointer none, .pointer none]) 97 (0, 0)) := (set_blk _ g 2 _ _ _ F3_g).trans rfl
  have F4_C : (((w.setCell ⟨xa, 3, none⟩ (.pointer none)).setCell ⟨C, 3, none⟩ (.pointer (some ⟨xa, 0, none⟩))).setCell ⟨g, 2, none⟩ (.pointer none)).drew.heap[C]? = some (.cells (#[.int .i64 sz, .map (some m), .pointer (some ⟨hdx, 0, none⟩), .pointer (some ⟨xa, 0, none⟩), ev, .int .i64 hits, .int .i64 miss]) 94 (0, 0)) := (set_far _ _ _ _ _ n_C_g).trans F3_C
  have F4_xa : (((w.setCell ⟨xa, 3, none⟩ (.pointer none)).setCell ⟨C, 3, none⟩ (.pointer (some ⟨xa, 0, none⟩))).setCell ⟨g, 2, none⟩ (.pointer none)).drew.heap[xa]? = some (.cells (#[.int .i64 ak, .int .i64 av, ptr pa, .pointer none]) 97 (0, 0)) := (set_far _ _ _ _ _ n_xa_g).trans F3_xa
  have F5_g : ((((w.setCell ⟨xa, 3, none⟩ (.pointer none)).setCell ⟨C, 3, none⟩ (.pointer (some ⟨xa, 0, none⟩))).setCell ⟨g, 2, none⟩ (.pointer none)).setCell ⟨g, 3, none⟩ (.pointer none)).drew.heap[g]? = some (.cells (#[.int .i64 k, .int .i64 v, .pointer none, .pointer none]) 97 (0, 0)) := (set_blk _ g 3 _ _ _ F4_g).trans rfl
  have F5_C : ((((w.setCell ⟨xa, 3, none⟩ (.pointer none)).setCell ⟨C, 3, none⟩ (.pointer (some ⟨xa, 0, none⟩))).setCell ⟨g, 2, none⟩ (.pointer none)).setCell ⟨g, 3, none⟩ (.pointer none)).drew.heap[C]? = some (.cells (#[.int .i64 sz, .map (some m), .pointer (some ⟨hdx, 0, none⟩), .pointer (some ⟨xa, 0, none⟩), ev, .int .i64 hits, .int .i64 miss]) 94 (0, 0)) := (set_far _ _ _ _ _ n_C_g).trans F4_C
  have F5_xa : ((((w.setCell ⟨xa, 3, none⟩ (.pointer none)).setCell ⟨C, 3, none⟩ (.pointer (some ⟨xa, 0, none⟩))).setCell ⟨g, 2, none⟩ (.pointer none)).setCell ⟨g, 3, none⟩ (.pointer none)).drew.heap[xa]? = some (.cells (#[.int .i64 ak, .int .i64 av, ptr pa, .pointer none]) 97 (0, 0)) := (set_far _ _ _ _ _ n_xa_g).trans F4_xa
  refine ⟨F5_g, F5_C, F5_xa, fun b d_g d_C d_xa => ?_, ?_, fun B w0 hB l_g l_C l_xa => ?_⟩
  · have e0 : w.heap[b]? = w.heap[b]? := rfl
    have e1 : (w.setCell ⟨xa, 3, none⟩ (.pointer none)).heap[b]? = w.heap[b]? := set_far _ _ _ _ _ d_xa
    have e2 : ((w.setCell ⟨xa, 3, none⟩ (.pointer none)).setCell ⟨C, 3, none⟩ (.pointer (some ⟨xa, 0, none⟩))).heap[b]? = (w.setCell ⟨xa, 3, none⟩ (.pointer none)).heap[b]? := set_far _ _ _ _ _ d_C
    have e3 : (((w.setCell ⟨xa, 3, none⟩ (.pointer none)).setCell ⟨C, 3, none⟩ (.pointer (some ⟨xa, 0, none⟩))).setCell ⟨g, 2, none⟩ (.pointer none)).heap[b]? = ((w.setCell ⟨xa, 3, none⟩ (.pointer none)).setCell ⟨C, 3, none⟩ (.pointer (some ⟨xa, 0, none⟩))).heap[b]? := set_far _ _ _ _ _ d_g
    have e4 : ((((w.setCell ⟨xa, 3, none⟩ (.pointer none)).setCell ⟨C, 3, none⟩ (.pointer (some ⟨xa, 0, none⟩))).setCell ⟨g, 2, none⟩ (.pointer none)).setCell ⟨g, 3, none⟩ (.pointer none)).heap[b]? = (((w.setCell ⟨xa, 3, none⟩ (.pointer none)).setCell ⟨C, 3, none⟩ (.pointer (some ⟨xa, 0, none⟩))).setCell ⟨g, 2, none⟩ (.pointer none)).heap[b]? := set_far _ _ _ _ _ d_g
    have ed : ∀ W : World, W.drew.heap = W.heap := fun _ => rfl
    rw [ed]
    exact e4.trans (e3.trans (e2.trans (e1.trans (e0
))))
  · simp only [World.size_drew, World.size_setCell]
  · have e0 : Below B w0 w := hB
    have e1 : Below B w0 (w.setCell ⟨xa, 3, none⟩ (.pointer none)) := e0.setCell l_xa _
    have e2 : Below B w0 ((w.setCell ⟨xa, 3, none⟩ (.pointer none)).setCell ⟨C, 3, none⟩ (.pointer (some ⟨xa, 0, none⟩))) := e1.setCell l_C _
    have e3 : Below B w0 (((w.setCell ⟨xa, 3, none⟩ (.pointer none)).setCell ⟨C, 3, none⟩ (.pointer (some ⟨xa, 0, none⟩))).setCell ⟨g, 2, none⟩ (.pointer none)) := e2.setCell l_g _
    have e4 : Below B w0 ((((w.setCell ⟨xa, 3, none⟩ (.pointer none)).setCell ⟨C, 3, none⟩ (.pointer (some ⟨xa, 0, none⟩))).setCell ⟨g, 2, none⟩ (.pointer none)).setCell ⟨g, 3, none⟩ (.pointer none)) := e3.setCell l_g _
    exact e4.drew
set_option maxHeartbeats 4000000 in
theorem rm_mid {ev : Value} {C m g xa xb hdx tlx : Nat} {sz hits miss k v ak av bk bv : Int} {pa : Option Nat} {nb : Option Nat} {w : World} (hg : w.heap[g]? = some (.cells (#[.int .i64 k, .int .i64 v, .pointer (some ⟨xa, 0, none⟩), .pointer (some ⟨xb, 0, none⟩)]) 97 (0, 0))) (hC : w.heap[C]? = some (.cells (#[.int .i64 sz, .map (some m), .pointer (some ⟨hdx, 0, none⟩), .pointer (some ⟨tlx, 0, none⟩), ev, .int .i64 hits, .int .i64 miss]) 94 (0, 0))) (ha : w.heap[xa]? = some (.cells (#[.int .i64 ak, .int .i64 av, ptr pa, .pointer (some ⟨g, 0, none⟩)]) 97 (0, 0))) (hb : w.heap[xb]? = some (.cells (#[.int .i64 bk, .int .i64 bv, .pointer (some ⟨g, 0, none⟩), ptr nb]) 97 (0, 0))) (n_g_C : g ≠ C) (n_g_xa : g ≠ xa) (n_g_xb : g ≠ xb) (n_C_xa : C ≠ xa) (n_C_xb : C ≠ xb) (n_xa_xb : xa ≠ xb) :
    Calls Try.prog 53 #[.pointer (some ⟨C, 0, none⟩), .pointer (some ⟨g, 0, none⟩)] w fun e w' => (∃ u, e = .returned u) ∧ w' = (((((w.setCell ⟨xa, 3, none⟩ (.pointer (some ⟨xb, 0, none⟩))).drew).setCell ⟨xb, 2, none⟩ (.pointer (some ⟨xa, 0, none⟩))).setCell ⟨g, 2, none⟩ (.pointer none)).setCell ⟨g, 3, none⟩ (.pointer none)).drew := by
  have n_C_g : C ≠ g := fun e => n_g_C e.symm
  have n_xa_g : xa ≠ g := fun e => n_g_xa e.symm
  have n_xb_g : xb ≠ g := fun e => n_g_xb e.symm
  have n_xa_C : xa ≠ C := fun e => n_C_xa e.symm
  have n_xb_C : xb ≠ C := fun e => n_C_xb e.symm
  have n_xb_xa : xb ≠ xa := fun e => n_xa_xb e.symm
  have f2g := blk_frozen hg 2
  have f3g := blk_frozen hg 3
  have f2C := blk_frozen hC 2
  have f3C := blk_frozen hC 3
  have f2xa := blk_frozen ha 2
  have f3xa := blk_frozen ha 3
  have f2xb := blk_frozen hb 2
  have f3xb := blk_frozen hb 3
  have q0_g_2 : w.cell? ⟨g, 2, none⟩ = some (.pointer (some ⟨xa, 0, none⟩)) := (blk_cell hg 2).trans rfl
  have q0_g_3 : w.cell? ⟨g, 3, none⟩ = some (.pointer (some ⟨xb, 0, none⟩)) := (blk_cell hg 3).trans rfl
  have q0_C_2 : w.cell? ⟨C, 2, none⟩ = some (.pointer (some ⟨hdx, 0, none⟩)) := (blk_cell hC 2).trans rfl
  have q0_C_3 : w.cell? ⟨C, 3, none⟩ = some (.pointer (some ⟨tlx, 0, none⟩)) := (blk_cell hC 3).trans rfl
  have q0_xa_2 : w.cell? ⟨xa, 2, none⟩ = some (ptr pa) := (blk_cell ha 2).trans rfl
  have q0_xa_3 : w.cell? ⟨xa, 3, none⟩ = some (.pointer (some ⟨g, 0, none⟩)) := (blk_cell ha 3).trans rfl
  have q0_xb_2 : w.cell? ⟨xb, 2, none⟩ = some (.pointer (some ⟨g, 0, none⟩)) := (blk_cell hb 2).trans rfl
  have q0_xb_3 : w.cell? ⟨xb, 3, none⟩ = some (ptr nb) := (blk_cell hb 3).trans rfl
  have F1_g : w.drew.heap[g]? = some (.cells (#[.int .i64 k, .int .i64 v, .pointer (some ⟨xa, 0, none⟩), .pointer (some ⟨xb, 0, none⟩)]) 97 (0, 0)) := hg
  have F1_C : w.drew.heap[C]? = some (.cells (#[.int .i64 sz, .map (some m), .pointer (some ⟨hdx, 0, none⟩), .pointer (some ⟨tlx, 0, none⟩), ev, .int .i64 hits, .int .i64 miss]) 94 (0, 0)) := hC
  have F1_xa : w.drew.heap[xa]? = some (.cells (#[.int .i64 ak, .int .i64 av, ptr pa, .pointer (some ⟨g, 0, none⟩)]) 97 (0, 0)) := ha
  have F1_xb : w.drew.heap[xb]? = some (.cells (#[.int .i64 bk, .int .i64 bv, .pointer (some ⟨g, 0, none⟩), ptr nb]) 97 (0, 0)) := hb
  have q1_g_2 : w.drew.cell? ⟨g, 2, none⟩ = some (.pointer (some ⟨xa, 0, none⟩)) := (blk_cell F1_g 2).trans rfl
  have q1_g_3 : w.drew.cell? ⟨g, 3, none⟩ = some (.pointer (some ⟨xb, 0, none⟩)) := (blk_cell F1_g 3).trans rfl
  have q1_C_2 : w.drew.cell? ⟨C, 2, none⟩ = some (.pointer (some ⟨hdx, 0, none⟩)) := (blk_cell F1_C 2).trans rfl
  have q1_C_3 : w.drew.cell? ⟨C, 3, none⟩ = some (.pointer (some ⟨tlx, 0, none⟩)) := (blk_cell F1_C 3).trans rfl
  have q1_xa_2 : w.drew.cell? ⟨xa, 2, none⟩ = some (ptr pa) := (blk_cell F1_xa 2).trans rfl
  have q1_xa_3 : w.drew.cell? ⟨xa, 3, none⟩ = some (.pointer (some ⟨g, 0, none⟩)) := (blk_cell F1_xa 3).trans rfl
  have q1_xb_2 : w.drew.cell? ⟨xb, 2, none⟩ = some (.pointer (some ⟨g, 0, none⟩)) := (blk_cell F1_xb 2).trans rfl
  have q1_xb_3 : w.drew.cell? ⟨xb, 3, none⟩ = some (ptr nb) := (blk_cell F1_xb 3).trans rfl
  have F2_g : (w.setCell ⟨xa, 3, none⟩ (.pointer (some ⟨xb, 0, none⟩))).drew.heap[g]? = some (.cells (#[.int .i64 k, .int .i64 v, .pointer (some ⟨xa, 0, none⟩), .pointer (some ⟨xb, 0, none⟩)]) 97 (0, 0)) := (set_far _ _ _ _ _ n_g_xa).trans F1_g
  have F2_C : (w.setCell ⟨xa, 3, none⟩ (.pointer (some ⟨xb, 0, none⟩))).drew.heap[C]? = some (.cells (#[.int .i64 sz, .map (some m), .pointer (some ⟨hdx, 0, none⟩), .pointer (some ⟨tlx, 0, none⟩), ev, .int .i64 hits, .int .i64 miss]) 94 (0, 0)) := (set_far _ _ _ _ _ n_C_xa).trans F1_C
  have F2_xa : (w.setCell ⟨xa, 3, none⟩ (.pointer (some ⟨xb, 0, none⟩))).drew.heap[xa]? = some (.cells (#[.int .i64 ak, .int .i64 av, ptr pa, .pointer (some ⟨xb, 0, none⟩)]) 97 (0, 0)) := (set_blk _ xa 3 _ _ _ F1_xa).trans rfl
  have F2_xb : (w.setCell ⟨xa, 3, none⟩ (.pointer (some ⟨xb, 0, none⟩))).drew.heap[xb]? = some (.cells (#[.int .i64 bk, .int .i64 bv, .pointer (some ⟨g, 0, none⟩), ptr nb]) 97 (0, 0)) := (set_far _ _ _ _ _ n_xb_xa).trans F1_xb
  have q2_g_2 : (w.setCell ⟨xa, 3, none⟩ (.pointer (some ⟨xb, 0, none⟩))).drew.cell? ⟨g, 2, none⟩ = some (.pointer (some ⟨xa, 0, none⟩)) := (blk_cell F2_g 2).trans rfl
  have q2_g_3 : (w.setCell ⟨xa, 3, none⟩ (.pointer (some ⟨xb, 0, none⟩))).drew.cell? ⟨g, 3, none⟩ = some (.pointer (some ⟨xb, 0, none⟩)) := (blk_cell F2_g 3).trans rfl
  have q2_C_2 : (w.setCell ⟨xa, 3, none⟩ (.pointer (some ⟨xb, 0, none⟩))).drew.cell? ⟨C, 2, none⟩ = some (.pointer (some ⟨hdx, 0, none⟩)) := (blk_cell F2_C 2).trans rfl
  have q2_C_3 : (w.setCell ⟨xa, 3, none⟩ (.pointer (some ⟨xb, 0, none⟩))).drew.cell? ⟨C, 3, none⟩ = some (.pointer (some ⟨tlx, 0, none⟩)) := (blk_cell F2_C 3).trans rfl
  have q2_xa_2 : (w.setCell ⟨xa, 3, none⟩ (.pointer (some ⟨xb, 0, none⟩))).drew.cell? ⟨xa, 2, none⟩ = some (ptr pa) := (blk_cell F2_xa 2).trans rfl
  have q2_xa_3 : (w.setCell ⟨xa, 3, none⟩ (.pointer (some ⟨xb, 0, none⟩))).drew.cell? ⟨xa, 3, none⟩ = some (.pointer (some ⟨xb, 0, none⟩)) := (blk_cell F2_xa 3).trans rfl
  have q2_xb_2 : (w.setCell ⟨xa, 3, none⟩ (.pointer (some ⟨xb, 0, none⟩))).drew.cell? ⟨xb, 2, none⟩ = some (.pointer (some ⟨g, 0, none⟩)) := (blk_cell F2_xb 2).trans rfl
  have q2_xb_3 : (w.setCell ⟨xa, 3, none⟩ (.pointer (some ⟨xb, 0, none⟩))).drew.cell? ⟨xb, 3, none⟩ = some (ptr nb) := (blk_cell F2_xb 3).trans rfl
  have F3_g : ((w.setCell ⟨xa, 3, none⟩ (.pointer (some ⟨xb, 0, none⟩))).drew).drew.heap[g]? = some (.cells (#[.int .i64 k, .int .i64 v, .pointer (some ⟨xa, 0, none⟩), .pointer (some ⟨xb, 0, none⟩)]) 97 (0, 0)) := F2_g
  have F3_C : ((w.setCell ⟨xa, 3, none⟩ (.pointer (some ⟨xb, 0, none⟩))).drew).drew.heap[C]? = some (.cells (#[.int .i64 sz, .map (some m), .pointer (some ⟨hdx, 0, none⟩), .pointer (some ⟨tlx, 0, none⟩), ev, .int .i64 hits, .int .i64 miss]) 94 (0, 0)) := F2_C
  have F3_xa : ((w.setCell ⟨xa, 3, none⟩ (.pointer (some ⟨xb, 0, none⟩))).drew).drew.heap[xa]? = some (.cells (#[.int .i64 ak, .int .i64 av, ptr pa, .pointer (some ⟨xb, 0, none⟩)]) 97 (0, 0)) := F2_xa
  have F3_xb : ((w.setCell ⟨xa, 3, none⟩ (.pointer (some ⟨xb, 0, none⟩))).drew).drew.heap[xb]? = some (.cells (#[.int .i64 bk, .int .i64 bv, .pointer (some ⟨g, 0, none⟩), ptr nb]) 97 (0, 0)) := F2_xb
  have q3_g_2 : ((w.setCell ⟨xa, 3, none⟩ (.pointer (some ⟨xb, 0, none⟩))).drew).drew.cell? ⟨g, 2, none⟩ = some (.pointer (some ⟨xa, 0, none⟩)) := (blk_cell F3_g 2).trans rfl
  have q3_g_3 : ((w.setCell ⟨xa, 3, none⟩ (.pointer (some ⟨xb, 0, none⟩))).drew).drew.cell? ⟨g, 3, none⟩ = some (.pointer (some ⟨xb, 0, none⟩)) := (blk_cell F3_g 3).trans rfl
  have q3_C_2 : ((w.setCell ⟨xa, 3, none⟩ (.pointer (some ⟨xb, 0, none⟩))).drew).drew.cell? ⟨C, 2, none⟩ = some (.pointer (some ⟨hdx, 0, none⟩)) := (blk_cell F3_C 2).trans rfl
  have q3_C_3 : ((w.setCell ⟨xa, 3, none⟩ (.pointer (some ⟨xb, 0, none⟩))).drew).drew.cell? ⟨C, 3, none⟩ = some (.pointer (some ⟨tlx, 0, none⟩)) := (blk_cell F3_C 3).trans rfl
  have q3_xa_2 : ((w.setCell ⟨xa, 3, none⟩ (.pointer (some ⟨xb, 0, none⟩))).drew).drew.cell? ⟨xa, 2, none⟩ = some (ptr pa) := (blk_cell F3_xa 2).trans rfl
  have q3_xa_3 : ((w.setCell ⟨xa, 3, none⟩ (.pointer (some ⟨xb, 0, none⟩))).drew).drew.cell? ⟨xa, 3, none⟩ = some (.pointer (some ⟨xb, 0, none⟩)) := (blk_cell F3_xa 3).trans rfl
  have q3_xb_2 : ((w.setCell ⟨xa, 3, none⟩ (.pointer (some ⟨xb, 0, none⟩))).drew).drew.cell? ⟨xb, 2, none⟩ = some (.pointer (some ⟨g, 0, none⟩)) := (blk_cell F3_xb 2).trans rfl
  have q3_xb_3 : ((w.setCell ⟨xa, 3, none⟩ (.pointer (some ⟨xb, 0, none⟩))).drew).drew.cell? ⟨xb, 3, none⟩ = some (ptr nb) := (blk_cell F3_xb 3).trans rfl
  have F4_g : (((w.setCell ⟨xa, 3, none⟩ (.pointer (some ⟨xb, 0, none⟩))).drew).setCell ⟨xb, 2, none⟩ (.pointer (some ⟨xa, 0, none⟩))).drew.heap[g]? = some (.cells (#[.int .i64 k, .int .i64 v, .pointer (some ⟨xa, 0, none⟩), .pointer (some ⟨xb, 0, none⟩)]) 97 (0, 0)) := (set_far _ _ _ _ _ n_g_xb).trans F3_g
  have F4_C : (((w.setCell ⟨xa, 3, none⟩ (.pointer (some ⟨xb, 0, none⟩))).drew).setCell ⟨xb, 2, none⟩ (.pointer (some ⟨xa, 0, none⟩))).drew.heap[C]? = some (.cells (#[.int .i64 sz, .map (some m), .pointer (some ⟨hdx, 0, none⟩), .pointer (some ⟨tlx, 0, none⟩), ev, .int .i64 hits, .int .i64 miss]) 94 (0, 0)) := (set_far _ _ _ _ _ n_C_xb).trans F3_C
  have F4_xa : (((w.setCell ⟨xa, 3, none⟩ (.pointer (some ⟨xb, 0, none⟩))).drew).setCell ⟨xb, 2, none⟩ (.pointer (some ⟨xa, 0, none⟩))).drew.heap[xa]? = some (.cells (#[.int .i64 ak, .int .i64 av, ptr pa, .pointer (some ⟨xb, 0, none⟩)]) 97 (0, 0)) := (set_far _ _ _ _ _ n_xa_xb).trans F3_xa
  have F4_xb : (((w.setCell ⟨xa, 3, none⟩ (.pointer (some ⟨xb, 0, none⟩))).drew).setCell ⟨xb, 2, none⟩ (.pointer (some ⟨xa, 0, none⟩))).drew.heap[xb]? = some (.cells (#[.int .i64 bk, .int .i64 bv, .pointer (some ⟨xa, 0, none⟩), ptr nb]) 97 (0, 0)) := (set_blk _ xb 2 _ _ _ F3_xb).trans rfl
  have q4_g_2 : (((w.setCell ⟨xa, 3, none⟩ (.pointer (some ⟨xb, 0, none⟩))).drew).setCell ⟨xb, 2, none⟩ (.pointer (some ⟨xa, 0, none⟩))).drew.cell? ⟨g, 2, none⟩ = some (.pointer (some ⟨xa, 0, none⟩)) := (blk_cell F4_g 2).trans rfl
  have q4_g_3 : (((w.setCell ⟨xa, 3, none⟩ (.pointer (some ⟨xb, 0, none⟩))).drew).setCell ⟨xb, 2, none⟩ (.pointer (some ⟨xa, 0, none⟩))).drew.cell? ⟨g, 3, none⟩ = some (.pointer (some ⟨xb, 0, none⟩)) := (blk_cell F4_g 3).trans rfl
  have q4_C_2 : (((w.setCell ⟨xa, 3, none⟩ (.pointer (some ⟨xb, 0, none⟩))).drew).setCell ⟨xb, 2, none⟩ (.pointer (some ⟨xa, 0, none⟩))).drew.cell? ⟨C, 2, none⟩ = some (.pointer (some ⟨hdx, 0, none⟩)) := (blk_cell F4_C 2).trans rfl
  have q4_C_3 : (((w.setCell ⟨xa, 3, none⟩ (.pointer (some ⟨xb, 0, none⟩))).drew).setCell ⟨xb, 2, none⟩ (.pointer (some ⟨xa, 0, none⟩))).drew.cell? ⟨C, 3, none⟩ = some (.pointer (some ⟨tlx, 0, none⟩)) := (blk_cell F4_C 3).trans rfl
  have q4_xa_2 : (((w.setCell ⟨xa, 3, none⟩ (.pointer (some ⟨xb, 0, none⟩))).drew).setCell ⟨xb, 2, none⟩ (.pointer (some ⟨xa, 0, none⟩))).drew.cell? ⟨xa, 2, none⟩ = some (ptr pa) := (blk_cell F4_xa 2).trans rfl
  have q4_xa_3 : (((w.setCell ⟨xa, 3, none⟩ (.pointer (some ⟨xb, 0, none⟩))).drew).setCell ⟨xb, 2, none⟩ (.pointer (some ⟨xa, 0, none⟩))).drew.cell? ⟨xa, 3, none⟩ = some (.pointer (some ⟨xb, 0, none⟩)) := (blk_cell F4_xa 3).trans rfl
  have q4_xb_2 : (((w.setCell ⟨xa, 3, none⟩ (.pointer (some ⟨xb, 0, none⟩))).drew).setCell ⟨xb, 2, none⟩ (.pointer (some ⟨xa, 0, none⟩))).drew.cell? ⟨xb, 2, none⟩ = some (.pointer (some ⟨xa, 0, none⟩)) := (blk_cell F4_xb 2).trans rfl
  have q4_xb_3 : (((w.setCell ⟨xa, 3, none⟩ (.pointer (some ⟨xb, 0, none⟩))).drew).setCell ⟨xb, 2, none⟩ (.pointer (some ⟨xa, 0, none⟩))).drew.cell? ⟨xb, 3, none⟩ = some (ptr nb) := (blk_cell F4_xb 3).trans rfl
  have F5_g : ((((w.setCell ⟨xa, 3, none⟩ (.pointer (some ⟨xb, 0, none⟩))).drew).setCell ⟨xb, 2, none⟩ (.pointer (some ⟨xa, 0, none⟩))).setCell ⟨g, 2, none⟩ (.pointer none)).drew.heap[g]? = some (.cells (#[.int .i64 k, .int .i64 v, .pointer none, .pointer (some ⟨xb, 0, none⟩)]) 97 (0, 0)) := (set_blk _ g 2 _ _ _ F4_g).trans rfl
  have F5_C : ((((w.setCell ⟨xa, 3, none⟩ (.pointer (some ⟨xb, 0, none⟩))).drew).setCell ⟨xb, 2, none⟩ (.pointer (some ⟨xa, 0, none⟩))).setCell ⟨g, 2, none⟩ (.pointer none)).drew.heap[C]? = some (.cells (#[.int .i64 sz, .map (some m), .pointer (some ⟨hdx, 0, none⟩), .pointer (some ⟨tlx, 0, none⟩), ev, .int .i64 hits, .int .i64 miss]) 94 (0, 0)) := (set_far _ _ _ _ _ n_C_g).trans F4_C
  have F5_xa : ((((w.setCell ⟨xa, 3, none⟩ (.pointer (some ⟨xb, 0, none⟩))).drew).setCell ⟨xb, 2, none⟩ (.pointer (some ⟨xa, 0, none⟩))).setCell ⟨g, 2, none⟩ (.pointer none)).drew.heap[xa]? = some (.cells (#[.int .i64 ak, .int .i64 av, ptr pa, .pointer (some ⟨xb, 0, none⟩)]) 97 (0, 0)) := (set_far _ _ _ _ _ n_xa_g).trans F4_xa
  have F5_xb : ((((w.setCell ⟨xa, 3, none⟩ (.pointer (some ⟨xb, 0, none⟩))).drew).setCell ⟨xb, 2, none⟩ (.pointer (some ⟨xa, 0, none⟩))).setCell ⟨g, 2, none⟩ (.pointer none)).drew.heap[xb]? = some (.cells (#[.int .i64 bk, .int .i64 bv, .pointer (some ⟨xa, 0, none⟩), ptr nb]) 97 (0, 0)) := (set_far _ _ _ _ _ n_xb_g).trans F4_xb
  have q5_g_2 : ((((w.setCell ⟨xa, 3, none⟩ (.pointer (some ⟨xb, 0, none⟩))).drew).setCell ⟨xb, 2, none⟩ (.pointer (some ⟨xa, 0, none⟩))).setCell ⟨g, 2, none⟩ (.pointer none)).drew.cell? ⟨g, 2, none⟩ = some (.pointer none) := (blk_cell F5_g 2).trans rfl
  have q5_g_3 : ((((w.setCell ⟨xa, 3, none⟩ (.pointer (some ⟨xb, 0, none⟩))).drew).setCell ⟨xb, 2, none⟩ (.pointer (some ⟨xa, 0, none⟩))).setCell ⟨g, 2, none⟩ (.pointer none)).drew.cell? ⟨g, 3, none⟩ = some (.pointer (some ⟨xb, 0, none⟩)) := (blk_cell F5_g 3).trans rfl
  have q5_C_2 : ((((w.setCell ⟨xa, 3, none⟩ (.pointer (some ⟨xb, 0, none⟩))).drew).setCell ⟨xb, 2, none⟩ (.pointer (some ⟨xa, 0, none⟩))).setCell ⟨g, 2, none⟩ (.pointer none)).drew.cell? ⟨C, 2, none⟩ = some (.pointer (some ⟨hdx, 0, none⟩)) := (blk_cell F5_C 2).trans rfl
  have q5_C_3 : ((((w.setCell ⟨xa, 3, none⟩ (.pointer (some ⟨xb, 0, none⟩))).drew).setCell ⟨xb, 2, none⟩ (.pointer (some ⟨xa, 0, none⟩))).setCell ⟨g, 2, none⟩ (.pointer none)).drew.cell? ⟨C, 3, none⟩ = some (.pointer (some ⟨tlx, 0, none⟩)) := (blk_cell F5_C 3).trans rfl
  have q5_xa_2 : ((((w.setCell ⟨xa, 3, none⟩ (.pointer (some ⟨xb, 0, none⟩))).drew).setCell ⟨xb, 2, none⟩ (.pointer (some ⟨xa, 0, none⟩))).setCell ⟨g, 2, none⟩ (.pointer none)).drew.cell? ⟨xa, 2, none⟩ = some (ptr pa) := (blk_cell F5_xa 2).trans rfl
  have q5_xa_3 : ((((w.setCell ⟨xa, 3, none⟩ (.pointer (some ⟨xb, 0, none⟩))).drew).setCell ⟨xb, 2, none⟩ (.pointer (some ⟨xa, 0, none⟩))).setCell ⟨g, 2, none⟩ (.pointer none)).drew.cell? ⟨xa, 3, none⟩ = some (.pointer (some ⟨xb, 0, none⟩)) := (blk_cell F5_xa 3).trans rfl
  have q5_xb_2 : ((((w.setCell ⟨xa, 3, none⟩ (.pointer (some ⟨xb, 0, none⟩))).drew).setCell ⟨xb, 2, none⟩ (.pointer (some ⟨xa, 0, none⟩))).setCell ⟨g, 2, none⟩ (.pointer none)).drew.cell? ⟨xb, 2, none⟩ = some (.pointer (some ⟨xa, 0, none⟩)) := (blk_cell F5_xb 2).trans rfl
  have q5_xb_3 : ((((w.setCell ⟨xa, 3, none⟩ (.pointer (some ⟨xb, 0, none⟩))).drew).setCell ⟨xb, 2, none⟩ (.pointer (some ⟨xa, 0, none⟩))).setCell ⟨g, 2, none⟩ (.pointer none)).drew.cell? ⟨xb, 3, none⟩ = some (ptr nb) := (blk_cell F5_xb 3).trans rfl
  have F6_g : (((((w.setCell ⟨xa, 3, none⟩ (.pointer (some ⟨xb, 0, none⟩))).drew).setCell ⟨xb, 2, none⟩ (.pointer (some ⟨xa, 0, none⟩))).setCell ⟨g, 2, none⟩ (.pointer none)).setCell ⟨g, 3, none⟩ (.pointer none)).drew.heap[g]? = some (.cells (#[.int .i64 k, .int .i64 v, .pointer none, .pointer none]) 97 (0, 0)) := (set_blk _ g 3 _ _ _ F5_g).trans rfl
  have F6_C : (((((w.setCell ⟨xa, 3, none⟩ (.pointer (some ⟨xb, 0, none⟩))).drew).setCell ⟨xb, 2, none⟩ (.pointer (some ⟨xa, 0, none⟩))).setCell ⟨g, 2, none⟩ (.pointer none)).setCell ⟨g, 3, none⟩ (.pointer none)).drew.heap[C]? = some (.cells (#[.int .i64 sz, .map (some m), .pointer (some ⟨hdx, 0, none⟩), .pointer (some ⟨tlx, 0, none⟩), ev, .int .i64 hits, .int .i64 miss]) 94 (0, 0)) := (set_far _ _ _ _ _ n_C_g).trans F5_C
  have F6_xa : (((((w.setCell ⟨xa, 3, none⟩ (.pointer (some ⟨xb, 0, none⟩))).drew).setCell ⟨xb, 2, none⟩ (.pointer (some ⟨xa, 0, none⟩))).setCell ⟨g, 2, none⟩ (.pointer none)).setCell ⟨g, 3, none⟩ (.pointer none)).drew.heap[xa]? = some (.cells (#[.int .i64 ak, .int .i64 av, ptr pa, .pointer (some ⟨xb, 0, none⟩)]) 97 (0, 0)) := (set_far _ _ _ _ _ n_xa_g).trans F5_xa
  have F6_xb : (((((w.setCell ⟨xa, 3, none⟩ (.pointer (some ⟨xb, 0, none⟩))).drew).setCell ⟨xb, 2, none⟩ (.pointer (some ⟨xa, 0, none⟩))).setCell ⟨g, 2, none⟩ (.pointer none)).setCell ⟨g, 3, none⟩ (.pointer none)).drew.heap[xb]? = some (.cells (#[.int .i64 bk, .int .i64 bv, .pointer (some ⟨xa, 0, none⟩), ptr nb]) 97 (0, 0)) := (set_far _ _ _ _ _ n_xb_g).trans F5_xb
  have q6_g_2 : (((((w.setCell ⟨xa, 3, none⟩ (.pointer (some ⟨xb, 0, none⟩))).drew).setCell ⟨xb, 2, none⟩ (.pointer (some ⟨xa, 0, none⟩))).setCell ⟨g, 2, none⟩ (.pointer none)).setCell ⟨g, 3, none⟩ (.pointer none)).drew.cell? ⟨g, 2, none⟩ = some (.pointer none) := (blk_cell F6_g 2).trans rfl
  have q6_g_3 : (((((w.setCell ⟨xa, 3, none⟩ (.pointer (some ⟨xb, 0, none⟩))).drew).setCell ⟨xb, 2, none⟩ (.pointer (some ⟨xa, 0, none⟩))).setCell ⟨g, 2, none⟩ (.pointer none)).setCell ⟨g, 3, none⟩ (.pointer none)).drew.cell? ⟨g, 3, none⟩ = some (.pointer none) := (blk_cell F6_g 3).trans rfl
  have q6_C_2 : (((((w.setCell ⟨xa, 3, none⟩ (.pointer (some ⟨xb, 0, none⟩))).drew).setCell ⟨xb, 2, none⟩ (.pointer (some ⟨xa, 0, none⟩))).setCell ⟨g, 2, none⟩ (.pointer none)).setCell ⟨g, 3, none⟩ (.pointer none)).drew.cell? ⟨C, 2, none⟩ = some (.pointer (some ⟨hdx, 0, none⟩)) := (blk_cell F6_C 2).trans rfl
  have q6_C_3 : (((((w.setCell ⟨xa, 3, none⟩ (.pointer (some ⟨xb, 0, none⟩))).drew).setCell ⟨xb, 2, none⟩ (.pointer (some ⟨xa, 0, none⟩))).setCell ⟨g, 2, none⟩ (.pointer none)).setCell ⟨g, 3, none⟩ (.pointer none)).drew.cell? ⟨C, 3, none⟩ = some (.pointer (some ⟨tlx, 0, none⟩)) := (blk_cell F6_C 3).trans rfl
  have q6_xa_2 : (((((w.setCell ⟨xa, 3, none⟩ (.pointer (some ⟨xb, 0, none⟩))).drew).setCell ⟨xb, 2, none⟩ (.pointer (some ⟨xa, 0, none⟩))).setCell ⟨g, 2, none⟩ (.pointer none)).setCell ⟨g, 3, none⟩ (.pointer none)).drew.cell? ⟨xa, 2, none⟩ = some (ptr pa) := (blk_cell F6_xa 2).trans rfl
  have q6_xa_3 : (((((w.setCell ⟨xa, 3, none⟩ (.pointer (some ⟨xb, 0, none⟩))).drew).setCell ⟨xb, 2, none⟩ (.pointer (some ⟨xa, 0, none⟩))).setCell ⟨g, 2, none⟩ (.pointer none)).setCell ⟨g, 3, none⟩ (.pointer none)).drew.cell? ⟨xa, 3, none⟩ = some (.pointer (some ⟨xb, 0, none⟩)) := (blk_cell F6_xa 3).trans rfl
  have q6_xb_2 : (((((w.setCell ⟨xa, 3, none⟩ (.pointer (some ⟨xb, 0, none⟩))).drew).setCell ⟨xb, 2, none⟩ (.pointer (some ⟨xa, 0, none⟩))).setCell ⟨g, 2, none⟩ (.pointer none)).setCell ⟨g, 3, none⟩ (.pointer none)).drew.cell? ⟨xb, 2, none⟩ = some (.pointer (some ⟨xa, 0, none⟩)) := (blk_cell F6_xb 2).trans rfl
  have q6_xb_3 : (((((w.setCell ⟨xa, 3, none⟩ (.pointer (some ⟨xb, 0, none⟩))).drew).setCell ⟨xb, 2, none⟩ (.pointer (some ⟨xa, 0, none⟩))).setCell ⟨g, 2, none⟩ (.pointer none)).setCell ⟨g, 3, none⟩ (.pointer none)).drew.cell? ⟨xb, 3, none⟩ = some (ptr nb) := (blk_cell F6_xb 3).trans rfl
  have f2_2_g : World.frozen? ((w.setCell ⟨xa, 3, none⟩ (.pointer (some ⟨xb, 0, none⟩))).drew) ⟨g, 2, none⟩ = false := blk_frozen F2_g 2
  have f2_3_g : World.frozen? ((w.setCell ⟨xa, 3, none⟩ (.pointer (some ⟨xb, 0, none⟩))).drew) ⟨g, 3, none⟩ = false := blk_frozen F2_g 3
  have f2_2_C : World.frozen? ((w.setCell ⟨xa, 3, none⟩ (.pointer (some ⟨xb, 0, none⟩))).drew) ⟨C, 2, none⟩ = false := blk_frozen F2_C 2
  have f2_3_C : World.frozen? ((w.setCell ⟨xa, 3, none⟩ (.pointer (some ⟨xb, 0, none⟩))).drew) ⟨C, 3, none⟩ = false := blk_frozen F2_C 3
  have f2_2_xa : World.frozen? ((w.setCell ⟨xa, 3, none⟩ (.pointer (some ⟨xb, 0, none⟩))).drew) ⟨xa, 2, none⟩ = false := blk_frozen F2_xa 2
  have f2_3_xa : World.frozen? ((w.setCell ⟨xa, 3, none⟩ (.pointer (some ⟨xb, 0, none⟩))).drew) ⟨xa, 3, none⟩ = false := blk_frozen F2_xa 3
  have f2_2_xb : World.frozen? ((w.setCell ⟨xa, 3, none⟩ (.pointer (some ⟨xb, 0, none⟩))).drew) ⟨xb, 2, none⟩ = false := blk_frozen F2_xb 2
  have f2_3_xb : World.frozen? ((w.setCell ⟨xa, 3, none⟩ (.pointer (some ⟨xb, 0, none⟩))).drew) ⟨xb, 3, none⟩ = false := blk_frozen F2_xb 3
  clear F1_g F1_C F1_xa F1_xb F2_g F2_C F2_xa F2_xb F3_g F3_C F3_xa F3_xb F4_g F4_C F4_xa F4_xb F5_g F5_C F5_xa F5_xb F6_g F6_C F6_xa F6_xb n_g_C n_g_xa n_g_xb n_C_g n_C_xa n_C_xb n_xa_g n_xa_C n_xa_xb n_xb_g n_xb_C n_xb_xa hg hC ha hb
  go_enter Try.func53, Try.ntmps53
  go_wp2
  go_still_tail 10, (by kernel_rfl)
  go_wp2
  generalize hW1 : ((w.setCell ⟨xa, 3, none⟩ (.pointer (some ⟨xb, 0, none⟩))).drew) = W1 at *
  go_still_tail 10, (by kernel_rfl)
  go_wp2
  go_end0
  subst hW1
  exact ⟨⟨_, rfl⟩, rfl⟩
theorem rmw_mid {ev : Value} {C m g xa xb hdx tlx : Nat} {sz hits miss k v ak av bk bv : Int} {pa : Option Nat} {nb : Option Nat} {w : World} (hg : w.heap[g]? = some (.cells (#[.int .i64 k, .int .i64 v, .pointer (some ⟨xa, 0, none⟩), .pointer (some ⟨xb, 0, none⟩)]) 97 (0, 0))) (hC : w.heap[C]? = some (.cells (#[.int .i64 sz, .map (some m), .pointer (some ⟨hdx, 0, none⟩), .pointer (some ⟨tlx, 0, none⟩), ev, .int .i64 hits, .int .i64 miss]) 94 (0, 0))) (ha : w.heap[xa]? = some (.cells (#[.int .i64 ak, .int .i64 av, ptr pa, .pointer (some ⟨g, 0, none⟩)]) 97 (0, 0))) (hb : w.heap[xb]? = some (.cells (#[.int .i64 bk, .int .i64 bv, .pointer (some ⟨g, 0, none⟩), ptr nb]) 97 (0, 0))) (n_g_C : g ≠ C) (n_g_xa : g ≠ xa) (n_g_xb : g ≠ xb) (n_C_xa : C ≠ xa) (n_C_xb : C ≠ xb) (n_xa_xb : xa ≠ xb) :
    ((((((w.setCell ⟨xa, 3, none⟩ (.pointer (some ⟨xb, 0, none⟩))).drew).setCell ⟨xb, 2, none⟩ (.pointer (some ⟨xa, 0, none⟩))).setCell ⟨g, 2, none⟩ (.pointer none)).setCell ⟨g, 3, none⟩ (.pointer none)).drew).heap[g]? = some (.cells (#[.int .i64 k, .int .i64 v, .pointer none, .pointer none]) 97 (0, 0)) ∧ ((((((w.setCell ⟨xa, 3, none⟩ (.pointer (some ⟨xb, 0, none⟩))).drew).setCell ⟨xb, 2, none⟩ (.pointer (some ⟨xa, 0, none⟩))).setCell ⟨g, 2, none⟩ (.pointer none)).setCell ⟨g, 3, none⟩ (.pointer none)).drew).heap[C]? = some (.cells (#[.int .i64 sz, .map (some m), .pointer (some ⟨hdx, 0, none⟩), .pointer (some ⟨tlx, 0, none⟩), ev, .int .i64 hits, .int .i64 miss]) 94 (0, 0)) ∧ ((((((w.setCell ⟨xa, 3, none⟩ (.pointer (some ⟨xb, 0, none⟩))).drew).setCell ⟨xb, 2, none⟩ (.pointer (some ⟨xa, 0, none⟩))).setCell ⟨g, 2, none⟩ (.pointer none)).setCell ⟨g, 3, none⟩ (.pointer none)).drew).heap[xa]? = some (.cells (#[.int .i64 ak, .int .i64 av, ptr pa, .pointer (some ⟨xb, 0, none⟩)]) 97 (0, 0)) ∧ ((((((w.setCell ⟨xa, 3, none⟩ (.pointer (some ⟨xb, 0, none⟩))).drew).setCell ⟨xb, 2, none⟩ (.pointer (some ⟨xa, 0, none⟩))).setCell ⟨g, 2, none⟩ (.pointer none)).setCell ⟨g, 3, none⟩ (.pointer none)).drew).heap[xb]? = some (.cells (#[.int .i64 bk, .int .i64 bv, .pointer (some ⟨xa, 0, none⟩), ptr nb]) 97 (0, 0)) ∧ (∀ b, b ≠ g → b ≠ C → b ≠ xa → b ≠ xb → ((((((w.setCell ⟨xa, 3, none⟩ (.pointer (some ⟨xb, 0, none⟩))).drew).setCell ⟨xb, 2, none⟩ (.pointer (some ⟨xa, 0, none⟩))).setCell ⟨g, 2, none⟩ (.pointer none)).setCell ⟨g, 3, none⟩ (.pointer none)).drew).heap[b]? = w.heap[b]?) ∧ ((((((w.setCell ⟨xa, 3, none⟩ (.pointer (some ⟨xb, 0, none⟩))).drew).setCell ⟨xb, 2, none⟩ (.pointer (some ⟨xa, 0, none⟩))).setCell ⟨g, 2, none⟩ (.pointer none)).setCell ⟨g, 3, none⟩ (.pointer none)).drew).heap.size = w.heap.size ∧ ∀ B w0, Below B w0 w → B ≤ g → B ≤ C → B ≤ xa → B ≤ xb → Below B w0 ((((((w.setCell ⟨xa, 3, none⟩ (.pointer (some ⟨xb, 0, none⟩))).drew).setCell ⟨xb, 2, none⟩ (.pointer (some ⟨xa, 0, none⟩))).setCell ⟨g, 2, none⟩ (.pointer none)).setCell ⟨g, 3, none⟩ (.pointer none)).drew) := by
  have n_C_g : C ≠ g := fun e => n_g_C e.symm
  have n_xa_g : xa ≠ g := fun e => n_g_xa e.symm
  have n_xb_g : xb ≠ g := fun e => n_g_xb e.symm
  have n_xa_C : xa ≠ C := fun e => n_C_xa e.symm
  have n_xb_C : xb ≠ C := fun e => n_C_xb e.symm
  have n_xb_xa : xb ≠ xa := fun e => n_xa_xb e.symm
  have F1_g : w.drew.heap[g]? = some (.cells (#[.int .i64 k, .int .i64 v, .pointer (some ⟨xa, 0, none⟩), .pointer (some ⟨xb, 0, none⟩)]) 97 (0, 0)) := hg
  have F1_C : w.drew.heap[C]? = some (.cells (#[.int .i64 sz, .map (some m), .pointer (some ⟨hdx, 0, none⟩), .pointer (some ⟨tlx, 0, none⟩), ev, .int .i64 hits, .int .i64 miss]) 94 (0, 0)) := hC
  have F1_xa : w.drew.heap[xa]? = some (.cells (#[.int .i64 ak, .int .i64 av, ptr pa, .pointer (some ⟨g, 0, none⟩)]) 97 (0, 0)) := ha
  have F1_xb : w.drew.heap[xb]? = some (.cells (#[.int .i64 bk, .int .i64 bv, .pointer (some ⟨g, 0, none⟩), ptr nb]) 97 (0, 0)) := hb
  have F2_g : (w.setCell ⟨xa, 3, none⟩ (.pointer (some ⟨xb, 0, none⟩))).drew.heap[g]? = some (.cells (#[.int .i64 k, .int .i64 v, .pointer (some ⟨xa, 0, none⟩), .pointer (some ⟨xb, 0, none⟩)]) 97 (0, 0)) := (set_far _ _ _ _ _ n_g_xa).trans F1_g
  have F2_C : (w.setCell ⟨xa, 3, none⟩ (.pointer (some ⟨xb, 0, none⟩))).drew.heap[C]? = some (.cells (#[.int .i64 sz, .map (some m), .pointer (some ⟨hdx, 0, none⟩), .pointer (some ⟨tlx, 0, none⟩), ev, .int .i64 hits, .int .i64 miss]) 94 (0, 0)) := (set_far _ _ _ _ _ n_C_xa).trans F1_C
  have F2_xa : (w.setCell ⟨xa, 3, none⟩ (.pointer (some ⟨xb, 0, none⟩))).drew.heap[xa]? = some (.cells (#[.int .i64 ak, .int .i64 av, ptr pa, .pointer (some ⟨xb, 0, none⟩)]) 97 (0, 0)) := (set_blk _ xa 3 _ _ _ F1_xa).trans rfl
  have F2_xb : (w.setCell ⟨xa, 3, none⟩ (.pointer (some ⟨xb, 0, none⟩))).drew.heap[xb]? = some (.cells (#[.int .i64 bk, .int .i64 bv, .pointer (some ⟨g, 0, none⟩), ptr nb]) 97 (0, 0)) := (set_far _ _ _ _ _ n_xb_xa).trans F1_xb
  have F3_g : ((w.setCell ⟨xa, 3, none⟩ (.pointer (some ⟨xb, 0, none⟩))).drew).drew.heap[g]? = some (.cells (#[.int .i64 k, .int .i64 v, .pointer (some ⟨xa, 0, none⟩), .pointer (some ⟨xb, 0, none⟩)]) 97 (0, 0)) := F2_g
  have F3_C : ((w.setCell ⟨xa, 3, none⟩ (.pointer (some ⟨xb, 0, none⟩))).drew).drew.heap[C]? = some (.cells (#[.int .i64 sz, .map (some m), .pointer (some ⟨hdx, 0, none⟩), .pointer (some ⟨tlx, 0, none⟩), ev, .int .i64 hits, .int .i64 miss]) 94 (0, 0)) := F2_C
  have F3_xa : ((w.setCell ⟨xa, 3, none⟩ (.pointer (some ⟨xb, 0, none⟩))).drew).drew.heap[xa]? = some (.cells (#[.int .i64 ak, .int .i64 av, ptr pa, .pointer (some ⟨xb, 0, none⟩)]) 97 (0, 0)) := F2_xa
  have F3_xb : ((w.setCell ⟨xa, 3, none⟩ (.pointer (some ⟨xb, 0, none⟩))).drew).drew.heap[xb]? = some (.cells (#[.int .i64 bk, .int .i64 bv, .pointer (some ⟨g, 0, none⟩), ptr nb]) 97 (0, 0)) := F2_xb
  have F4_g : (((w.setCell ⟨xa, 3, none⟩ (.pointer (some ⟨xb, 0, none⟩))).drew).setCell ⟨xb, 2, none⟩ (.pointer (some ⟨xa, 0, none⟩))).drew.heap[g]? = some (.cells (#[.int .i64 k, .int .i64 v, .pointer (some ⟨xa, 0, none⟩), .pointer (some ⟨xb, 0, none⟩)]) 97 (0, 0)) := (set_far _ _ _ _ _ n_g_xb).trans F3_g
  have F4_C : (((w.setCell ⟨xa, 3, none⟩ (.pointer (some ⟨xb, 0, none⟩))).drew).setCell ⟨xb, 2, none⟩ (.pointer (some ⟨xa, 0, none⟩))).drew.heap[C]? = some (.cells (#[.int .i64 sz, .map (some m), .pointer (some ⟨hdx, 0, none⟩), .pointer (some ⟨tlx, 0, none⟩), ev, .int .i64 hits, .int .i64 miss]) 94 (0, 0)) := (set_far _ _ _ _ _ n_C_xb).trans F3_C
  have F4_xa : (((w.setCell ⟨xa, 3, none⟩ (.pointer (some ⟨xb, 0, none⟩))).drew).setCell ⟨xb, 2, none⟩ (.pointer (some ⟨xa, 0, none⟩))).drew.heap[xa]? = some (.cells (#[.int .i64 ak, .int .i64 av, ptr pa, .pointer (some ⟨xb, 0, none⟩)]) 97 (0, 0)) := (set_far _ _ _ _ _ n_xa_xb).trans F3_xa
  have F4_xb : (((w.setCell ⟨xa, 3, none⟩ (.pointer (some ⟨xb, 0, none⟩))).drew).setCell ⟨xb, 2, none⟩ (.pointer (some ⟨xa, 0, none⟩))).drew.heap[xb]? = some (.cells (#[.int .i64 bk, .int .i64 bv, .pointer (some ⟨xa, 0, none⟩), ptr nb]) 97 (0, 0)) := (set_blk _ xb 2 _ _ _ F3_xb).trans rfl
  have F5_g : ((((w.setCell ⟨xa, 3, none⟩ (.pointer (some ⟨xb, 0, none⟩))).drew).setCell ⟨xb, 2, none⟩ (.pointer (some ⟨xa, 0, none⟩))).setCell ⟨g, 2, none⟩ (.pointer none)).drew.heap[g]? = some (.cells (#[.int .i64 k, .int .i64 v, .pointer none, .pointer (some ⟨xb, 0, none⟩)]) 97 (0, 0)) := (set_blk _ g 2 _ _ _ F4_g).trans rfl
  have F5_C : ((((w.setCell ⟨xa, 3, none⟩ (.pointer (some ⟨xb, 0, none⟩))).drew).setCell ⟨xb, 2, none⟩ (.pointer (some ⟨xa, 0, none⟩))).setCell ⟨g, 2, none⟩ (.pointer none)).drew.heap[C]? = some (.cells (#[.int .i64 sz, .map (some m), .pointer (some ⟨hdx, 0, none⟩), .pointer (some ⟨tlx, 0, none⟩), ev, .int .i64 hits, .int .i64 miss]) 94 (0, 0)) := (set_far _ _ _ _ _ n_C_g).trans F4_C
  have F5_xa : ((((w.setCell ⟨xa, 3, none⟩ (.pointer (some ⟨xb, 0, none⟩))).drew).setCell ⟨xb, 2, none⟩ (.pointer (some ⟨xa, 0, none⟩))).setCell ⟨g, 2, none⟩ (.pointer none)).drew.heap[xa]? = some (.cells (#[.int .i64 ak, .int .i64 av, ptr pa, .pointer (some ⟨xb, 0, none⟩)]) 97 (0, 0)) := (set_far _ _ _ _ _ n_xa_g).trans F4_xa
  have F5_xb : ((((w.setCell ⟨xa, 3, none⟩ (.pointer (some ⟨xb, 0, none⟩))).drew).setCell ⟨xb, 2, none⟩ (.pointer (some ⟨xa, 0, none⟩))).setCell ⟨g, 2, none⟩ (.pointer none)).drew.heap[xb]? = some (.cells (#[.int .i64 bk, .int .i64 bv, .pointer (some ⟨xa, 0, none⟩), ptr nb]) 97 (0, 0)) := (set_far _ _ _ _ _ n_xb_g).trans F4_xb
  have F6_g : (((((w.setCell ⟨xa, 3, none⟩ (.pointer (some ⟨xb, 0, none⟩))).drew).setCell ⟨xb, 2, none⟩ (.pointer (some ⟨xa, 0, none⟩))).setCell ⟨g, 2, none⟩ (.pointer none)).setCell ⟨g, 3, none⟩ (.pointer none)).drew.heap[g]? = some (.cells (#[.int .i64 k, .int .i64 v, .pointer none, .pointer none]) 97 (0, 0)) := (set_blk _ g 3 _ _ _ F5_g).trans rfl
  have F6_C : (((((w.setCell ⟨xa, 3, none⟩ (.pointer (some ⟨xb, 0, none⟩))).drew).setCell ⟨xb, 2, none⟩ (.pointer (some ⟨xa, 0, none⟩))).setCell ⟨g, 2, none⟩ (.pointer none)).setCell ⟨g, 3, none⟩ (.pointer none)).drew.heap[C]? = some (.cells (#[.int .i64 sz, .map (some m), .pointer (some ⟨hdx, 0, none⟩), .pointer (some ⟨tlx, 0, none⟩), ev, .int .i64 hits, .int .i64 miss]) 94 (0, 0)) := (set_far _ _ _ _ _ n_C_g).trans F5_C
  have F6_xa : (((((w.setCell ⟨xa, 3, none⟩ (.pointer (some ⟨xb, 0, none⟩))).drew).setCell ⟨xb, 2, none⟩ (.pointer (some ⟨xa, 0, none⟩))).setCell ⟨g, 2, none⟩ (.pointer none)).setCell ⟨g, 3, none⟩ (.pointer none)).drew.heap[xa]? = some (.cells (#[.int .i64 ak, .int .i64 av, ptr pa, .pointer (some ⟨xb, 0, none⟩)]) 97 (0, 0)) := (set_far _ _ _ _ _ n_xa_g).trans F5_xa
  have F6_xb : (((((w.setCell ⟨xa, 3, none⟩ (.pointer (some ⟨xb, 0, none⟩))).drew).setCell ⟨xb, 2, none⟩ (.pointer (some ⟨xa, 0, none⟩))).setCell ⟨g, 2, none⟩ (.pointer none)).setCell ⟨g, 3, none⟩ (.pointer none)).drew.heap[xb]? = some (.cells (#[.int .i64 bk, .int .i64 bv, .pointer (some ⟨xa, 0, none⟩), ptr nb]) 97 (0, 0)) := (set_far _ _ _ _ _ n_xb_g).trans F5_xb
  refine ⟨F6_g, F6_C, F6_xa, F6_xb, fun b d_g d_C d_xa d_xb => ?_, ?_, fun B w0 hB l_g l_C l_xa l_xb => ?_⟩
  · have e0 : w.heap[b]? = w.heap[b]? := rfl
    have e1 : (w.setCell ⟨xa, 3, none⟩ (.pointer (some ⟨xb, 0, none⟩))).heap[b]? = w.heap[b]? := set_far _ _ _ _ _ d_xa
    have e2 : ((w.setCell ⟨xa, 3, none⟩ (.pointer (some ⟨xb, 0, none⟩))).drew).heap[b]? = (w.setCell ⟨xa, 3, none⟩ (.pointer (some ⟨xb, 0, none⟩))).heap[b]? := rfl
    have e3 : (((w.setCell ⟨xa, 3, none⟩ (.pointer (some ⟨xb, 0, none⟩))).drew).setCell ⟨xb, 2, none⟩ (.pointer (some ⟨xa, 0, none⟩))).heap[b]? = ((w.setCell ⟨xa, 3, none⟩ (.pointer (some ⟨xb, 0, none⟩))).drew).heap[b]? := set_far _ _ _ _ _ d_xb
    have e4 : ((((w.setCell ⟨xa, 3, none⟩ (.pointer (some ⟨xb, 0, none⟩))).drew).setCell ⟨xb, 2, none⟩ (.pointer (some ⟨xa, 0, none⟩))).setCell ⟨g, 2, none⟩ (.pointer none)).heap[b]? = (((w.setCell ⟨xa, 3, none⟩ (.pointer (some ⟨xb, 0, none⟩))).drew).setCell ⟨xb, 2, none⟩ (.pointer (some ⟨xa, 0, none⟩))).heap[b]? := set_far _ _ _ _ _ d_g
    have e5 : (((((w.setCell ⟨xa, 3, none⟩ (.pointer (some ⟨xb, 0, none⟩))).drew).setCell ⟨xb, 2, none⟩ (.pointer (some ⟨xa, 0, none⟩))).setCell ⟨g, 2, none⟩ (.pointer none)).setCell ⟨g, 3, none⟩ (.pointer none)).heap[b]? = ((((w.setCell ⟨xa, 3, none⟩ (.pointer (some ⟨xb, 0, none⟩))).drew).setCell ⟨xb, 2, none⟩ (.pointer (some ⟨xa, 0, none⟩))).setCell ⟨g, 2, none⟩ (.pointer none)).heap[b]? := set_far _ _ _ _ _ d_g
    have ed : ∀ W : World, W.drew.heap = W.heap := fun _ => rfl
    rw [ed]
    exact e5.trans (e4.trans (e3.trans (e2.trans (e1.trans (e0
)))))
  · simp only [World.size_drew, World.size_setCell]
  · have e0 : Below B w0 w := hB
    have e1 : Below B w0 (w.setCell ⟨xa, 3, none⟩ (.pointer (some ⟨xb, 0, none⟩))) := e0.setCell l_xa _
    have e2 : Below B w0 ((w.setCell ⟨xa, 3, none⟩ (.pointer (some ⟨xb, 0, none⟩))).drew) := e1.drew
    have e3 : Below B w0 (((w.setCell ⟨xa, 3, none⟩ (.pointer (some ⟨xb, 0, none⟩))).drew).setCell ⟨xb, 2, none⟩ (.pointer (some ⟨xa, 0, none⟩))) := e2.setCell l_xb _
    have e4 : Below B w0 ((((w.setCell ⟨xa, 3, none⟩ (.pointer (some ⟨xb, 0, none⟩))).drew).setCell ⟨xb, 2, none⟩ (.pointer (some ⟨xa, 0, none⟩))).setCell ⟨g, 2, none⟩ (.pointer none)) := e3.setCell l_g _
    have e5 : Below B w0 (((((w.setCell ⟨xa, 3, none⟩ (.pointer (some ⟨xb, 0, none⟩))).drew).setCell ⟨xb, 2, none⟩ (.pointer (some ⟨xa, 0, none⟩))).setCell ⟨g, 2, none⟩ (.pointer none)).setCell ⟨g, 3, none⟩ (.pointer none)) := e4.setCell l_g _
    exact e5.drew
end Go.Proofs.Ytphnnbbgcnilgaa.CacR
