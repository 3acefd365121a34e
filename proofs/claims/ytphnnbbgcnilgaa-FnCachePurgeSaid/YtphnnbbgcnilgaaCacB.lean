/-
  Proved: what addToFront of a cache does to its list. Conditions: an entry that is not in it.
-/
import Derived.Test.YtphnnbbgcnilgaaCacA
namespace Go.Proofs.Ytphnnbbgcnilgaa.CacB
open Go Go.RowKit Go.Proofs.YtphnnbbgcnilgaaW.PrintWords Go.Proofs.Ytphnnbbgcnilgaa.Common Go.Proofs.Ytphnnbbgcnilgaa.IMapN Go.Proofs.Ytphnnbbgcnilgaa.CacA
set_option linter.unusedVariables false
set_option linter.unusedSimpArgs false
set_option maxRecDepth 1000000
set_option maxHeartbeats 4000000 in
theorem front_c {ev : Value} {C m g : Nat} {sz hits miss k v : Int} {l : List E} {p0 n0 : Option Nat} {w : World} (h : DL ev C sz m hits miss l w) (hg : w.heap[g]? = some (.cells (nodeC k v p0 n0) 97 (0, 0))) (hn : ∀ x ∈ l, x.1 ≠ g) :
    Calls Try.prog 52 #[.pointer (some ⟨C, 0, none⟩), .pointer (some ⟨g, 0, none⟩)] w fun e w' => ∃ u, e = .returned u ∧ DL ev C sz m hits miss ((g, k, v) :: l) w' ∧ Away C ((g, k, v) :: l) w w' := by
  have hgc : g ≠ C := typ_ne hg h.hd (by decide)
  have hcg : C ≠ g := fun e => hgc e.symm
  have fg2 := blk_frozen hg 2
  have fg3 := blk_frozen hg 3
  have fc2 := blk_frozen h.hd 2
  have fc3 := blk_frozen h.hd 3
  have hnd := h.nd
  have hsg := h.sg
  have hd0 := h.hd
  cases l with
  | nil =>
    have q0_g_2 : w.cell? ⟨g, 2, none⟩ = some (ptr p0) := (blk_cell hg 2).trans rfl
    have q0_g_3 : w.cell? ⟨g, 3, none⟩ = some (ptr n0) := (blk_cell hg 3).trans rfl
    have q0_C_2 : w.cell? ⟨C, 2, none⟩ = some (.pointer none) := (blk_cell hd0 2).trans rfl
    have q0_C_3 : w.cell? ⟨C, 3, none⟩ = some (.pointer none) := (blk_cell hd0 3).trans rfl
    have F1_g : (w.setCell ⟨g, 2, none⟩ (.pointer none)).heap[g]? = some (.cells (#[.int .i64 k, .int .i64 v, .pointer none, ptr n0]) 97 (0, 0)) := (set_blk _ g 2 _ _ _ hg).trans rfl
    have F1_C : (w.setCell ⟨g, 2, none⟩ (.pointer none)).heap[C]? = some (.cells (#[.int .i64 sz, .map (some m), .pointer none, .pointer none, ev, .int .i64 hits, .int .i64 miss]) 94 (0, 0)) := (set_far _ _ _ _ _ hcg).trans hd0
    have q1_g_2 : (w.setCell ⟨g, 2, none⟩ (.pointer none)).cell? ⟨g, 2, none⟩ = some (.pointer none) := (blk_cell F1_g 2).trans rfl
    have q1_g_3 : (w.setCell ⟨g, 2, none⟩ (.pointer none)).cell? ⟨g, 3, none⟩ = some (ptr n0) := (blk_cell F1_g 3).trans rfl
    have q1_C_2 : (w.setCell ⟨g, 2, none⟩ (.pointer none)).cell? ⟨C, 2, none⟩ = some (.pointer none) := (blk_cell F1_C 2).trans rfl
    have q1_C_3 : (w.setCell ⟨g, 2, none⟩ (.pointer none)).cell? ⟨C, 3, none⟩ = some (.pointer none) := (blk_cell F1_C 3).trans rfl
    have F2_g : ((w.setCell ⟨g, 2, none⟩ (.pointer none)).setCell ⟨g, 3, none⟩ (.pointer none)).heap[g]? = some (.cells (#[.int .i64 k, .int .i64 v, .pointer none, .pointer none]) 97 (0, 0)) := (set_blk _ g 3 _ _ _ F1_g).trans rfl
    have F2_C : ((w.setCell ⟨g, 2, none⟩ (.pointer none)).setCell ⟨g, 3, none⟩ (.pointer none)).heap[C]? = some (.cells (#[.int .i64 sz, .map (some m), .pointer none, .pointer none, ev, .int .i64 hits, .int .i64 miss]) 94 (0, 0)) := (set_far _ _ _ _ _ hcg).trans F1_C
    have q2_g_2 : ((w.setCell ⟨g, 2, none⟩ (.pointer none)).setCell ⟨g, 3, none⟩ (.pointer none)).cell? ⟨g, 2, none⟩ = some (.pointer none) := (blk_cell F2_g 2).trans rfl
    have q2_g_3 : ((w.setCell ⟨g, 2, none⟩ (.pointer none)).setCell ⟨g, 3, none⟩ (.pointer none)).cell? ⟨g, 3, none⟩ = some (.pointer none) := (blk_cell F2_g 3).trans rfl
    have q2_C_2 : ((w.setCell ⟨g, 2, none⟩ (.pointer none)).setCell ⟨g, 3, none⟩ (.pointer none)).cell? ⟨C, 2, none⟩ = some (.pointer none) := (blk_cell F2_C 2).trans rfl
    have q2_C_3 : ((w.setCell ⟨g, 2, none⟩ (.pointer none)).setCell ⟨g, 3, none⟩ (.pointer none)).cell? ⟨C, 3, none⟩ = some (.pointer none) := (blk_cell F2_C 3).trans rfl
    have F3_g : (((w.setCell ⟨g, 2, none⟩ (.pointer none)).setCell ⟨g, 3, none⟩ (.pointer none)).setCell ⟨C, 2, none⟩ (.pointer (some ⟨g, 0, none⟩))).heap[g]? = some (.cells (#[.int .i64 k, .int .i64 v, .pointer none, .pointer none]) 97 (0, 0)) := (set_far _ _ _ _ _ hgc).trans F2_g
    have F3_C : (((w.setCell ⟨g, 2, none⟩ (.pointer none)).setCell ⟨g, 3, none⟩ (.pointer none)).setCell ⟨C, 2, none⟩ (.pointer (some ⟨g, 0, none⟩))).heap[C]? = some (.cells (#[.int .i64 sz, .map (some m), .pointer (some ⟨g, 0, none⟩), .pointer none, ev, .int .i64 hits, .int .i64 miss]) 94 (0, 0)) := (set_blk _ C 2 _ _ _ F2_C).trans rfl
    have q3_g_2 : (((w.setCell ⟨g, 2, none⟩ (.pointer none)).setCell ⟨g, 3, none⟩ (.pointer none)).setCell ⟨C, 2, none⟩ (.pointer (some ⟨g, 0, none⟩))).cell? ⟨g, 2, none⟩ = some (.pointer none) := (blk_cell F3_g 2).trans rfl
    have q3_g_3 : (((w.setCell ⟨g, 2, none⟩ (.pointer none)).setCell ⟨g, 3, none⟩ (.pointer none)).setCell ⟨C, 2, none⟩ (.pointer (some ⟨g, 0, none⟩))).cell? ⟨g, 3, none⟩ = some (.pointer none) := (blk_cell F3_g 3).trans rfl
    have q3_C_2 : (((w.setCell ⟨g, 2, none⟩ (.pointer none)).setCell ⟨g, 3, none⟩ (.pointer none)).setCell ⟨C, 2, none⟩ (.pointer (some ⟨g, 0, none⟩))).cell? ⟨C, 2, none⟩ = some (.pointer (some ⟨g, 0, none⟩)) := (blk_cell F3_C 2).trans rfl
    have q3_C_3 : (((w.setCell ⟨g, 2, none⟩ (.pointer none)).setCell ⟨g, 3, none⟩ (.pointer none)).setCell ⟨C, 2, none⟩ (.pointer (some ⟨g, 0, none⟩))).cell? ⟨C, 3, none⟩ = some (.pointer none) := (blk_cell F3_C 3).trans rfl
    have F4_g : ((((w.setCell ⟨g, 2, none⟩ (.pointer none)).setCell ⟨g, 3, none⟩ (.pointer none)).setCell ⟨C, 2, none⟩ (.pointer (some ⟨g, 0, none⟩))).setCell ⟨C, 3, none⟩ (.pointer (some ⟨g, 0, none⟩))).heap[g]? = some (.cells (#[.int .i64 k, .int .i64 v, .pointer none, .pointer none]) 97 (0, 0)) := (set_far _ _ _ _ _ hgc).trans F3_g
    have F4_C : ((((w.setCell ⟨g, 2, none⟩ (.pointer none)).setCell ⟨g, 3, none⟩ (.pointer none)).setCell ⟨C, 2, none⟩ (.pointer (some ⟨g, 0, none⟩))).setCell ⟨C, 3, none⟩ (.pointer (some ⟨g, 0, none⟩))).heap[C]? = some (.cells (#[.int .i64 sz, .map (some m), .pointer (some ⟨g, 0, none⟩), .pointer (some ⟨g, 0, none⟩), ev, .int .i64 hits, .int .i64 miss]) 94 (0, 0)) := (set_blk _ C 3 _ _ _ F3_C).trans rfl
    have q4_g_2 : ((((w.setCell ⟨g, 2, none⟩ (.pointer none)).setCell ⟨g, 3, none⟩ (.pointer none)).setCell ⟨C, 2, none⟩ (.pointer (some ⟨g, 0, none⟩))).setCell ⟨C, 3, none⟩ (.pointer (some ⟨g, 0, none⟩))).cell? ⟨g, 2, none⟩ = some (.pointer none) := (blk_cell F4_g 2).trans rfl
    have q4_g_3 : ((((w.setCell ⟨g, 2, none⟩ (.pointer none)).setCell ⟨g, 3, none⟩ (.pointer none)).setCell ⟨C, 2, none⟩ (.pointer (some ⟨g, 0, none⟩))).setCell ⟨C, 3, none⟩ (.pointer (some ⟨g, 0, none⟩))).cell? ⟨g, 3, none⟩ = some (.pointer none) := (blk_cell F4_g 3).trans rfl
    have q4_C_2 : ((((w.setCell ⟨g, 2, none⟩ (.pointer none)).setCell ⟨g, 3, none⟩ (.pointer none)).setCell ⟨C, 2, none⟩ (.pointer (some ⟨g, 0, none⟩))).setCell ⟨C, 3, none⟩ (.pointer (some ⟨g, 0, none⟩))).cell? ⟨C, 2, none⟩ = some (.pointer (some ⟨g, 0, none⟩)) := (blk_cell F4_C 2).trans rfl
    have q4_C_3 : ((((w.setCell ⟨g, 2, none⟩ (.pointer none)).setCell ⟨g, 3, none⟩ (.pointer none)).setCell ⟨C, 2, none⟩ (.pointer (some ⟨g, 0, none⟩))).setCell ⟨C, 3, none⟩ (.pointer (some ⟨g, 0, none⟩))).cell? ⟨C, 3, none⟩ = some (.pointer (some ⟨g, 0, none⟩)) := (blk_cell F4_C 3).trans rfl
    have HG := Aside0.mk F4_g
    have HD := Aside0.mk F4_C
    have HGC := Aside0.mk hgc
    clear h hg hn hd0 hnd hsg hgc hcg F1_g F1_C F2_g F2_C F3_g F3_C F4_g F4_C
    go_enter Try.func52, Try.ntmps52
    go_wp2
    go_end0
    refine ⟨_, rfl, ⟨HD.out, ⟨HG.out, trivial⟩, by simp⟩, ?_, fun b hb hl => ?_, fun B w0 hb hC hl => (((hb.setCell (hl (g, k, v) (by simp)) _).setCell (hl (g, k, v) (by simp)) _).setCell hC _).setCell hC _⟩
    · simp only [World.size_setCell]
    · have hbg : b ≠ g := fun e => hl (g, k, v) (by simp) e.symm
      rw [set_far _ _ _ _ _ hb, set_far _ _ _ _ _ hb, set_far _ _ _ _ _ hbg, set_far _ _ _ _ _ hbg]
  | cons x t =>
    obtain ⟨xg, xk, xv⟩ := x
    obtain ⟨tl, htl⟩ := lastO_some (xg, xk, xv) t none
    obtain ⟨nx, hnx⟩ : ∃ nx, nx = headO t none := ⟨_, rfl⟩
    have hx : w.heap[xg]? = some (.cells #[.int .i64 xk, .int .i64 xv, .pointer none, ptr nx] 97 (0, 0)) := by rw [hnx]; exact hsg.1
    have hd1 : w.heap[C]? = some (.cells #[.int .i64 sz, .map (some m), .pointer (some ⟨xg, 0, none⟩), .pointer (some ⟨tl, 0, none⟩), ev, .int .i64 hits, .int .i64 miss] 94 (0, 0)) := by rw [hd0, htl]; rfl
    have hxg : xg ≠ g := hn (xg, xk, xv) (by simp)
    have hgx : g ≠ xg := fun e => hxg e.symm
    have hxc : xg ≠ C := typ_ne hx hd1 (by decide)
    have hcx : C ≠ xg := fun e => hxc e.symm
    have fx2 := blk_frozen hx 2
    have HT : Aside0 (∀ y ∈ t, y.1 ≠ g ∧ y.1 ≠ xg ∧ y.1 ≠ C) := ⟨fun y hy => ⟨hn y (by simp [hy]), fun e => List.rel_of_pairwise_cons hnd hy e.symm, by
      obtain ⟨p', n', hb⟩ := seg_mem t _ _ hsg.2 y hy
      exact typ_ne hb hd1 (by decide)⟩⟩
    have HST := Aside0.mk hsg.2
    have HND : Aside0 (((g, k, v) :: (xg, xk, xv) :: t).Pairwise fun a b => a.1 ≠ b.1) := ⟨List.Pairwise.cons (fun y hy e => hn y hy e.symm) hnd⟩
    have q0_g_2 : w.cell? ⟨g, 2, none⟩ = some (ptr p0) := (blk_cell hg 2).trans rfl
    have q0_g_3 : w.cell? ⟨g, 3, none⟩ = some (ptr n0) := (blk_cell hg 3).trans rfl
    have q0_C_2 : w.cell? ⟨C, 2, none⟩ = some (.pointer (some ⟨xg, 0, none⟩)) := (blk_cell hd1 2).trans rfl
    have q0_C_3 : w.cell? ⟨C, 3, none⟩ = some (.pointer (some ⟨tl, 0, none⟩)) := (blk_cell hd1 3).trans rfl
    have q0_xg_2 : w.cell? ⟨xg, 2, none⟩ = some (.pointer none) := (blk_cell hx 2).trans rfl
    have q0_xg_3 : w.cell? ⟨xg, 3, none⟩ = some (ptr nx) := (blk_cell hx 3).trans rfl
    have F1_g : (w.setCell ⟨g, 2, none⟩ (.pointer none)).heap[g]? = some (.cells (#[.int .i64 k, .int .i64 v, .pointer none, ptr n0]) 97 (0, 0)) := (set_blk _ g 2 _ _ _ hg).trans rfl
    have F1_C : (w.setCell ⟨g, 2, none⟩ (.pointer none)).heap[C]? = some (.cells (#[.int .i64 sz, .map (some m), .pointer (some ⟨xg, 0, none⟩), .pointer (some ⟨tl, 0, none⟩), ev, .int .i64 hits, .int .i64 miss]) 94 (0, 0)) := (set_far _ _ _ _ _ hcg).trans hd1
    have F1_xg : (w.setCell ⟨g, 2, none⟩ (.pointer none)).heap[xg]? = some (.cells (#[.int .i64 xk, .int .i64 xv, .pointer none, ptr nx]) 97 (0, 0)) := (set_far _ _ _ _ _ hxg).trans hx
    have q1_g_2 : (w.setCell ⟨g, 2, none⟩ (.pointer none)).cell? ⟨g, 2, none⟩ = some (.pointer none) := (blk_cell F1_g 2).trans rfl
    have q1_g_3 : (w.setCell ⟨g, 2, none⟩ (.pointer none)).cell? ⟨g, 3, none⟩ = some (ptr n0) := (blk_cell F1_g 3).trans rfl
    have q1_C_2 : (w.setCell ⟨g, 2, none⟩ (.pointer none)).cell? ⟨C, 2, none⟩ = some (.pointer (some ⟨xg, 0, none⟩)) := (blk_cell F1_C 2).trans rfl
    have q1_C_3 : (w.setCell ⟨g, 2, none⟩ (.pointer none)).cell? ⟨C, 3, none⟩ = some (.pointer (some ⟨tl, 0, none⟩)) := (blk_cell F1_C 3).trans rfl
    have q1_xg_2 : (w.setCell ⟨g, 2, none⟩ (.pointer none)).cell? ⟨xg, 2, none⟩ = some (.pointer none) := (blk_cell F1_xg 2).trans rfl
    have q1_xg_3 : (w.setCell ⟨g, 2, none⟩ (.pointer none)).cell? ⟨xg, 3, none⟩ = some (ptr nx) := (blk_cell F1_xg 3).trans rfl
    have F2_g : ((w.setCell ⟨g, 2, none⟩ (.pointer none)).setCell ⟨g, 3, none⟩ (.pointer (some ⟨xg, 0, none⟩))).heap[g]? = some (.cells (#[.int .i64 k, .int .i64 v, .pointer none, .pointer (some ⟨xg, 0, none⟩)]) 97 (0, 0)) := (set_blk _ g 3 _ _ _ F1_g).trans rfl
    have F2_C : ((w.setCell ⟨g, 2, none⟩ (.pointer none)).setCell ⟨g, 3, none⟩ (.pointer (some ⟨xg, 0, none⟩))).heap[C]? = some (.cells (#[.int .i64 sz, .map (some m), .pointer (some ⟨xg, 0, none⟩), .pointer (some ⟨tl, 0, none⟩), ev, .int .i64 hits, .int .i64 miss]) 94 (0, 0)) := (set_far _ _ _ _ _ hcg).trans F1_C
    have F2_xg : ((w.setCell ⟨g, 2, none⟩ (.pointer none)).setCell ⟨g, 3, none⟩ (.pointer (some ⟨xg, 0, none⟩))).heap[xg]? = some (.cells (#[.int .i64 xk, .int .i64 xv, .pointer none, ptr nx]) 97 (0, 0)) := (set_far _ _ _ _ _ hxg).trans F1_xg
    have q2_g_2 : ((w.setCell ⟨g, 2, none⟩ (.pointer none)).setCell ⟨g, 3, none⟩ (.pointer (some ⟨xg, 0, none⟩))).cell? ⟨g, 2, none⟩ = some (.pointer none) := (blk_cell F2_g 2).trans rfl
    have q2_g_3 : ((w.setCell ⟨g, 2, none⟩ (.pointer none)).setCell ⟨g, 3, none⟩ (.pointer (some ⟨xg, 0, none⟩))).cell? ⟨g, 3, none⟩ = some (.pointer (some ⟨xg, 0, none⟩)) := (blk_cell F2_g 3).trans rfl
    have q2_C_2 : ((w.setCell ⟨g, 2, none⟩ (.pointer none)).setCell ⟨g, 3, none⟩ (.pointer (some ⟨xg, 0, none⟩))).cell? ⟨C, 2, none⟩ = some (.pointer (some ⟨xg, 0, none⟩)) := (blk_cell F2_C 2).trans rfl
    have q2_C_3 : ((w.setCell ⟨g, 2, none⟩ (.pointer none)).setCell ⟨g, 3, none⟩ (.pointer (some ⟨xg, 0, none⟩))).cell? ⟨C, 3, none⟩ = some (.pointer (some ⟨tl, 0, none⟩)) := (blk_cell F2_C 3).trans rfl
    have q2_xg_2 : ((w.setCell ⟨g, 2, none⟩ (.pointer none)).setCell ⟨g, 3, none⟩ (.pointer (some ⟨xg, 0, none⟩))).cell? ⟨xg, 2, none⟩ = some (.pointer none) := (blk_cell F2_xg 2).trans rfl
    have q2_xg_3 : ((w.setCell ⟨g, 2, none⟩ (.pointer none)).setCell ⟨g, 3, none⟩ (.pointer (some ⟨xg, 0, none⟩))).cell? ⟨xg, 3, none⟩ = some (ptr nx) := (blk_cell F2_xg 3).trans rfl
    have F3_g : (((w.setCell ⟨g, 2, none⟩ (.pointer none)).setCell ⟨g, 3, none⟩ (.pointer (some ⟨xg, 0, none⟩))).setCell ⟨xg, 2, none⟩ (.pointer (some ⟨g, 0, none⟩))).heap[g]? = some (.cells (#[.int .i64 k, .int .i64 v, .pointer none, .pointer (some ⟨xg, 0, none⟩)]) 97 (0, 0)) := (set_far _ _ _ _ _ hgx).trans F2_g
    have F3_C : (((w.setCell ⟨g, 2, none⟩ (.pointer none)).setCell ⟨g, 3, none⟩ (.pointer (some ⟨xg, 0, none⟩))).setCell ⟨xg, 2, none⟩ (.pointer (some ⟨g, 0, none⟩))).heap[C]? = some (.cells (#[.int .i64 sz, .map (some m), .pointer (some ⟨xg, 0, none⟩), .pointer (some ⟨tl, 0, none⟩), ev, .int .i64 hits, .int .i64 miss]) 94 (0, 0)) := (set_far _ _ _ _ _ hcx).trans F2_C
    have F3_xg : (((w.setCell ⟨g, 2, none⟩ (.pointer none)).setCell ⟨g, 3, none⟩ (.pointer (some ⟨xg, 0, none⟩))).setCell ⟨xg, 2, none⟩ (.pointer (some ⟨g, 0, none⟩))).heap[xg]? = some (.cells (#[.int .i64 xk, .int .i64 xv, .pointer (some ⟨g, 0, none⟩), ptr nx]) 97 (0, 0)) := (set_blk _ xg 2 _ _ _ F2_xg).trans rfl
    have q3_g_2 : (((w.setCell ⟨g, 2, none⟩ (.pointer none)).setCell ⟨g, 3, none⟩ (.pointer (some ⟨xg, 0, none⟩))).setCell ⟨xg, 2, none⟩ (.pointer (some ⟨g, 0, none⟩))).cell? ⟨g, 2, none⟩ = some (.pointer none) := (blk_cell F3_g 2).trans rfl
    have q3_g_3 : (((w.setCell ⟨g, 2, none⟩ (.pointer none)).setCell ⟨g, 3, none⟩ (.pointer (some ⟨xg, 0, none⟩))).setCell ⟨xg, 2, none⟩ (.pointer (some ⟨g, 0, none⟩))).cell? ⟨g, 3, none⟩ = some (.pointer (some ⟨xg, 0, none⟩)) := (blk_cell F3_g 3).trans rfl
    have q3_C_2 : (((w.setCell ⟨g, 2, none⟩ (.pointer none)).setCell ⟨g, 3, none⟩ (.pointer (some ⟨xg, 0, none⟩))).setCell ⟨xg, 2, none⟩ (.pointer (some ⟨g, 0, none⟩))).cell? ⟨C, 2, none⟩ = some (.pointer (some ⟨xg, 0, none⟩)) := (blk_cell F3_C 2).trans rfl
    have q3_C_3 : (((w.setCell ⟨g, 2, none⟩ (.pointer none)).setCell ⟨g, 3, none⟩ (.pointer (some ⟨xg, 0, none⟩))).setCell ⟨xg, 2, none⟩ (.pointer (some ⟨g, 0, none⟩))).cell? ⟨C, 3, none⟩ = some (.pointer (some ⟨tl, 0, none⟩)) := (blk_cell F3_C 3).trans rfl
    have q3_xg_2 : (((w.setCell ⟨g, 2, none⟩ (.pointer none)).setCell ⟨g, 3, none⟩ (.pointer (some ⟨xg, 0, none⟩))).setCell ⟨xg, 2, none⟩ (.pointer (some ⟨g, 0, none⟩))).cell? ⟨xg, 2, none⟩ = some (.pointer (some ⟨g, 0, none⟩)) := (blk_cell F3_xg 2).trans rfl
    have q3_xg_3 : (((w.setCell ⟨g, 2, none⟩ (.pointer none)).setCell ⟨g, 3, none⟩ (.pointer (some ⟨xg, 0, none⟩))).setCell ⟨xg, 2, none⟩ (.pointer (some ⟨g, 0, none⟩))).cell? ⟨xg, 3, none⟩ = some (ptr nx) := (blk_cell F3_xg 3).trans rfl
    have F4_g : ((((w.setCell ⟨g, 2, none⟩ (.pointer none)).setCell ⟨g, 3, none⟩ (.pointer (some ⟨xg, 0, none⟩))).setCell ⟨xg, 2, none⟩ (.pointer (some ⟨g, 0, none⟩))).setCell ⟨C, 2, none⟩ (.pointer (some ⟨g, 0, none⟩))).heap[g]? = some (.cells (#[.int .i64 k, .int .i64 v, .pointer none, .pointer (some ⟨xg, 0, none⟩)]) 97 (0, 0)) := (set_far _ _ _ _ _ hgc).trans F3_g
    have F4_C : ((((w.setCell ⟨g, 2, none⟩ (.pointer none)).setCell ⟨g, 3, none⟩ (.pointer (some ⟨xg, 0, none⟩))).setCell ⟨xg, 2, none⟩ (.pointer (some ⟨g, 0, none⟩))).setCell ⟨C, 2, none⟩ (.pointer (some ⟨g, 0, none⟩))).heap[C]? = some (.cells (#[.int .i64 sz, .map (some m), .pointer (some ⟨g, 0, none⟩), .pointer (some ⟨tl, 0, none⟩), ev, .int .i64 hits, .int .i64 miss]) 94 (0, 0)) := (set_blk _ C 2 _ _ _ F3_C).trans rfl
    have F4_xg : ((((w.setCell ⟨g, 2, none⟩ (.pointer none)).setCell ⟨g, 3, none⟩ (.pointer (some ⟨xg, 0, none⟩))).setCell ⟨xg, 2, none⟩ (.pointer (some ⟨g, 0, none⟩))).setCell ⟨C, 2, none⟩ (.pointer (some ⟨g, 0, none⟩))).heap[xg]? = some (.cells (#[.int .i64 xk, .int .i64 xv, .pointer (some ⟨g, 0, none⟩), ptr nx]) 97 (0, 0)) := (set_far _ _ _ _ _ hxc).trans F3_xg
    have q4_g_2 : ((((w.setCell ⟨g, 2, none⟩ (.pointer none)).setCell ⟨g, 3, none⟩ (.pointer (some ⟨xg, 0, none⟩))).setCell ⟨xg, 2, none⟩ (.pointer (some ⟨g, 0, none⟩))).setCell ⟨C, 2, none⟩ (.pointer (some ⟨g, 0, none⟩))).cell? ⟨g, 2, none⟩ = some (.pointer none) := (blk_cell F4_g 2).trans rfl
    have q4_g_3 : ((((w.setCell ⟨g, 2, none⟩ (.pointer none)).setCell ⟨g, 3, none⟩ (.pointer (some ⟨xg, 0, none⟩))).setCell ⟨xg, 2, none⟩ (.pointer (some ⟨g, 0, none⟩))).setCell ⟨C, 2, none⟩ (.pointer (some ⟨g, 0, none⟩))).cell? ⟨g, 3, none⟩ = some (.pointer (some ⟨xg, 0, none⟩)) := (blk_cell F4_g 3).trans rfl
    have q4_C_2 : ((((w.setCell ⟨g, 2, none⟩ (.pointer none)).setCell ⟨g, 3, none⟩ (.pointer (some ⟨xg, 0, none⟩))).setCell ⟨xg, 2, none⟩ (.pointer (some ⟨g, 0, none⟩))).setCell ⟨C, 2, none⟩ (.pointer (some ⟨g, 0, none⟩))).cell? ⟨C, 2, none⟩ = some (.pointer (some ⟨g, 0, none⟩)) := (blk_cell F4_C 2).trans rfl
    have q4_C_3 : ((((w.setCell ⟨g, 2, none⟩ (.pointer none)).setCell ⟨g, 3, none⟩ (.pointer (some ⟨xg, 0, none⟩))).setCell ⟨xg, 2, none⟩ (.pointer (some ⟨g, 0, none⟩))).setCell ⟨C, 2, none⟩ (.pointer (some ⟨g, 0, none⟩))).cell? ⟨C, 3, none⟩ = some (.pointer (some ⟨tl, 0, none⟩)) := (blk_cell F4_C 3).trans rfl
    have q4_xg_2 : ((((w.setCell ⟨g, 2, none⟩ (.pointer none)).setCell ⟨g, 3, none⟩ (.pointer (some ⟨xg, 0, none⟩))).setCell ⟨xg, 2, none⟩ (.pointer (some ⟨g, 0, none⟩))).setCell ⟨C, 2, none⟩ (.pointer (some ⟨g, 0, none⟩))).cell? ⟨xg, 2, none⟩ = some (.pointer (some ⟨g, 0, none⟩)) := (blk_cell F4_xg 2).trans rfl
    have q4_xg_3 : ((((w.setCell ⟨g, 2, none⟩ (.pointer none)).setCell ⟨g, 3, none⟩ (.pointer (some ⟨xg, 0, none⟩))).setCell ⟨xg, 2, none⟩ (.pointer (some ⟨g, 0, none⟩))).setCell ⟨C, 2, none⟩ (.pointer (some ⟨g, 0, none⟩))).cell? ⟨xg, 3, none⟩ = some (ptr nx) := (blk_cell F4_xg 3).trans rfl
    have HG := Aside0.mk F4_g
    have HD := Aside0.mk F4_C
    have HX := Aside0.mk F4_xg
    have HTL := Aside0.mk htl
    have HNX := Aside0.mk hnx
    clear h hg hn hd0 hnd hsg hgc hcg hxg hgx hxc hcx hx hd1 htl hnx F1_g F1_C F1_xg F2_g F2_C F2_xg F3_g F3_C F3_xg F4_g F4_C F4_xg
    go_enter Try.func52, Try.ntmps52
    go_wp2
    go_end0
    refine ⟨⟨_, rfl⟩, ?_, ?_⟩
    · refine ⟨?_, ⟨HG.out, ?_, ?_⟩, HND.out⟩
      · rw [lastO_cons, lastO_cons, ← lastO_cons none, HTL.out]; exact HD.out
      · rw [← HNX.out]; exact HX.out
      · refine seg_frame t _ _ HST.out (fun y hy => ?_)
        obtain ⟨k1, k2, k3⟩ := HT.out y hy
        rw [set_far _ _ _ _ _ k3, set_far _ _ _ _ _ k2, set_far _ _ _ _ _ k1, set_far _ _ _ _ _ k1]
    · refine ⟨by simp only [World.size_setCell], fun b hb hl => ?_, fun B w0 hb hC hl => (((hb.setCell (hl (g, k, v) (by simp)) _).setCell (hl (g, k, v) (by simp)) _).setCell (hl (xg, xk, xv) (by simp)) _).setCell hC _⟩
      have hbg : b ≠ g := fun e => hl (g, k, v) (by simp) e.symm
      have hbx : b ≠ xg := fun e => hl (xg, xk, xv) (by simp) e.symm
      rw [set_far _ _ _ _ _ hb, set_far _ _ _ _ _ hbx, set_far _ _ _ _ _ hbg, set_far _ _ _ _ _ hbg]
end Go.Proofs.Ytphnnbbgcnilgaa.CacB
