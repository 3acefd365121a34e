/-
  Proved: what stands in memory while table.hideColumns runs. Conditions: each lemma's own.
-/
import Derived.Test.YtapbnbinoakbhaaHidT
namespace Go.Proofs.Ytapbnbinoakbhaa.HidD
open Go.RowKit Go.Proofs.YtapbnbinoakbhaaW.PrintWords Go.Proofs.Ytapbnbinoakbhaa.Common Go.Proofs.Ytapbnbinoakbhaa.ZReg Go.Proofs.Ytapbnbinoakbhaa.ZWid Go.Proofs.Ytapbnbinoakbhaa.IMap Go.Proofs.Ytapbnbinoakbhaa.GEZ Go.Proofs.Ytapbnbinoakbhaa.HidB Go.Proofs.Ytapbnbinoakbhaa.HidC
set_option linter.unusedVariables false
set_option linter.unusedSimpArgs false
set_option maxRecDepth 1000000

abbrev RS : Kd (List ByteArray) := Kd.slice 9 Kd.string
variable {B : Nat} {w0 w w' : World} {bt Bt Bm Bn mr cm n n' m base : Nat} {hs : Nat → Bool} {A : Option Addr} {c : Nat} {rows : List (List ByteArray)} {f25 f28 : Value}
theorem hs0_next {v6 v9 : Value} {x6 : List (List ByteArray)} {x9 : List ByteArray} (h : HS0 B w0 w bt Bt Bm Bn mr cm hs m) (hi : HI B w0 w Bn cm n v6 x6 v9 x9 w') : HS0 B w0 w' bt Bt Bm Bn mr cm hs m := by
  obtain ⟨T, hT, h6⟩ := h.tb
  obtain ⟨n0, hn⟩ := h.num
  obtain ⟨f, hf⟩ := h.cmp
  have hk := hi.keep
  have k1 := (hk bt (Array.getElem?_eq_some_iff.1 hT).1 (type_ne hT hn (by decide)) (not_map hT hf)).trans hT
  have k2 := (hk Bt (Array.getElem?_eq_some_iff.1 h.pt).1 (type_ne h.pt hn (by decide)) (not_map h.pt hf)).trans h.pt
  have k3 := (hk Bm (Array.getElem?_eq_some_iff.1 h.pm).1 (type_ne h.pm hn (by decide)) (not_map h.pm hf)).trans h.pm
  exact ⟨⟨T, k1, h6⟩, k2, k3, (h.at hk).2.2.2, h.ne, h.bn, h.bc, ⟨_, hi.num⟩, hi.map⟩
theorem hs0_setT (h : HS0 B w0 w bt Bt Bm Bn mr cm hs m) (j : Nat) (hj : j ≠ 6) (u : Value) : HS0 B w0 (w.setCell ⟨bt, j, none⟩ u) bt Bt Bm Bn mr cm hs m := by
  obtain ⟨T, hT, h6⟩ := h.tb
  obtain ⟨n0, hn⟩ := h.num
  obtain ⟨f, hf⟩ := h.cmp
  refine ⟨⟨T.setIfInBounds j u, by simp [World.setCell, Array.getElem?_modify, hT], by rw [Array.getElem?_setIfInBounds, if_neg hj]; exact h6⟩, (set_block w bt j _ _ (type_ne h.pt hT (by decide))).trans h.pt, (set_block w bt j _ _ (type_ne h.pm hT (by decide))).trans h.pm, imap_setCell h.map _ (not_map hT h.map) _, h.ne, h.bn, h.bc, ⟨n0, (set_block w bt j _ _ (type_ne hn hT (by decide))).trans hn⟩, ⟨f, imap_setCell hf _ (not_map hT hf) _⟩⟩
structure HT (B : Nat) (w0 : World) (bt Bt Bm Bn mr cm : Nat) (hs : Nat → Bool) (m n base : Nat) (A : Option Addr) (c : Nat) (rows : List (List ByteArray)) (f25 f28 : Value) (w : World) : Prop where
  h0 : HS0 B w0 w bt Bt Bm Bn mr cm hs m
  num : w.heap[Bn]? = some (.cells #[.int .i64 (n : Int)] 3 (0, 0))
  tb : ∃ T : Array Value, w.heap[bt]? = some (.cells T 153 (0, 0)) ∧ T[20]? = some (.slice A rows.length c) ∧ T[25]? = some f25 ∧ T[28]? = some f28 ∧ (∃ u, T[14]? = some u)
  rows : Kd.S RS 162 w base (fun _ => True) (.slice A rows.length c) rows
  bel : Below B w0 w
  sz : base ≤ w.heap.size ∧ Bn < base ∧ cm < base ∧ bt < base ∧ B ≤ bt
theorem HT.call {v6 v9 : Value} {x6 : List (List ByteArray)} {x9 : List ByteArray} (h : HT B w0 bt Bt Bm Bn mr cm hs m n base A c rows f25 f28 w) (hi : HI B w0 w Bn cm n' v6 x6 v9 x9 w') : HT B w0 bt Bt Bm Bn mr cm hs m n' base A c rows f25 f28 w' := by
  obtain ⟨T, hT, ht⟩ := h.tb
  obtain ⟨s1, s2, s3, s4, s5⟩ := h.sz
  obtain ⟨f, hf⟩ := h.h0.cmp
  refine ⟨hs0_next h.h0 hi, hi.num, ⟨T, (hi.keep bt (by omega) (type_ne hT h.num (by decide)) (not_map hT hf)).trans hT, ht⟩, ?_, hi.bel, ⟨Nat.le_trans s1 hi.size, s2, s3, s4, s5⟩⟩
  exact Kd.S_mono (Kd.S_step (Kd.S_bound h.rows) (fun k hk hlt => hi.keep k hlt (by have := hk.2.1; omega) (by have := hk.2.1; omega))) (fun k hk => hk.1)
theorem HT.cells (h : HT B w0 bt Bt Bm Bn mr cm hs m n base A c rows f25 f28 w) : w.cell? ⟨Bt, 0, none⟩ = some (.pointer (some ⟨bt, 0, none⟩)) ∧ w.cell? ⟨bt, 20, none⟩ = some (.slice A rows.length c) ∧ w.cell? ⟨bt, 25, none⟩ = some f25 ∧ w.cell? ⟨bt, 28, none⟩ = some f28 ∧ w.cell? ⟨Bn, 0, none⟩ = some (.int .i64 (n : Int)) ∧ (∀ j, w.frozen? ⟨bt, j, none⟩ = false) ∧ (∃ u, w.cell? ⟨bt, 14, none⟩ = some u) ∧ w.cell? ⟨Bm, 0, none⟩ = some (.map (some cm)) := by
  obtain ⟨T, hT, t20, t25, t28, ⟨u, t14⟩⟩ := h.tb
  exact ⟨(cell_of_row _ _ _ _ _ _ h.h0.pt).trans rfl, (cell_of_row _ _ _ _ _ _ hT).trans t20, (cell_of_row _ _ _ _ _ _ hT).trans t25, (cell_of_row _ _ _ _ _ _ hT).trans t28, (cell_of_row _ _ _ _ _ _ h.num).trans rfl, fun j => by simp [World.frozen?, hT], ⟨u, (cell_of_row _ _ _ _ _ _ hT).trans t14⟩, (cell_of_row _ _ _ _ _ _ h.h0.pm).trans rfl⟩
theorem HT.set (h : HT B w0 bt Bt Bm Bn mr cm hs m n base A c rows f25 f28 w) (j : Nat) (hj : j ≠ 6 ∧ j ≠ 20) (u : Value) : HT B w0 bt Bt Bm Bn mr cm hs m n base A c rows (if j = 25 then u else f25) (if j = 28 then u else f28) (w.setCell ⟨bt, j, none⟩ u) := by
  obtain ⟨T, hT, t20, t25, t28, ⟨u14, t14⟩⟩ := h.tb
  obtain ⟨s1, s2, s3, s4, s5⟩ := h.sz
  have g : ∀ k y, T[k]? = some y → (T.setIfInBounds j u)[k]? = some (if j = k then u else y) := fun k y hk => by
    rw [Array.getElem?_setIfInBounds]
    split
    · rename_i e
      subst e
      rw [if_pos (Array.getElem?_eq_some_iff.1 hk).1]
    · exact hk
  refine ⟨hs0_setT h.h0 j hj.1 u, (set_block w bt j _ _ (type_ne h.num hT (by decide))).trans h.num, ⟨T.setIfInBounds j u, by simp [World.setCell, Array.getElem?_modify, hT], ?_, g 25 _ t25, g 28 _ t28, ⟨_, g 14 _ t14⟩⟩, ?_, h.bel.setCell s5 _, ⟨by simpa using s1, s2, s3, s4, s5⟩⟩
  · rw [g 20 _ t20, if_neg hj.2]
  · exact Kd.S_mono (Kd.S_far (Kd.S_bound h.rows) (fun k hk => by have := hk.2.1; show k ≠ bt; omega) _) (fun k hk => hk.1)
/-- the world that the three variables stand in -/
abbrev W4 (w : World) (bt : Nat) : World := (((w.alloc (.cells #[.pointer (some ⟨bt, 0, none⟩)] 131)).alloc (.map #[] 0)).alloc (.cells #[.map (some (w.heap.size + 1))] 155)).alloc (.cells #[.int .i64 0] 3)
theorem w4_below (w : World) (bt : Nat) : Below w.heap.size w (W4 w bt) := below_alloc (below_alloc (below_alloc (below_alloc (Below.refl _ _) _) _) _) _
theorem w4_size (w : World) (bt : Nat) : (W4 w bt).heap.size = w.heap.size + 4 := by
  show ((((w.heap.push _).push _).push _).push _).size = _
  simp
theorem w4_num (w : World) (bt : Nat) : (W4 w bt).heap[w.heap.size + 3]? = some (.cells #[.int .i64 ((0 : Nat) : Int)] 3 (0, 0)) := by
  have := heap_alloc_new (((w.alloc (.cells #[.pointer (some ⟨bt, 0, none⟩)] 131)).alloc (.map #[] 0)).alloc (.cells #[.map (some (w.heap.size + 1))] 155)) (.cells #[.int .i64 0] 3)
  simp only [World.size_alloc] at this
  exact this
theorem w4_start {T : Array Value} (hT : w.heap[bt]? = some (.cells T 153 (0, 0))) (h6 : T[6]? = some (.map (some mr))) (hm : imap w .i64 mr (mapF hs m)) (hB : B ≤ w.heap.size) : HS0 B w0 (W4 w bt) bt w.heap.size (w.heap.size + 2) (w.heap.size + 3) mr (w.heap.size + 1) hs m := by
  have hb := w4_below w bt
  refine ⟨⟨T, (hb.block _ (Array.getElem?_eq_some_iff.1 hT).1).trans hT, h6⟩, ?_, ?_, imap_below hm hb (imap_lt hm), by have := imap_lt hm; omega, by omega, by omega, ⟨0, w4_num w bt⟩, ⟨_, imap_alloc (imap_alloc (?_ : imap ((w.alloc (.cells #[.pointer (some ⟨bt, 0, none⟩)] 131)).alloc (.map #[] 0)) .i64 (w.heap.size + 1) (fun _ => none)) _) _⟩⟩
  · exact ((below_alloc (below_alloc (below_alloc (Below.refl _ _) _) _) _).block _ (by simp)).trans (heap_alloc_new w _)
  · refine ((below_alloc (Below.refl _ _) _).block _ (by simp)).trans ?_
    have := heap_alloc_new ((w.alloc (.cells #[.pointer (some ⟨bt, 0, none⟩)] 131)).alloc (.map #[] 0)) (.cells #[.map (some (w.heap.size + 1))] 155)
    simp only [World.size_alloc] at this
    exact this
  · have := imap_made (w.alloc (.cells #[.pointer (some ⟨bt, 0, none⟩)] 131)) .i64
    rwa [World.size_alloc] at this
end Go.Proofs.Ytapbnbinoakbhaa.HidD
