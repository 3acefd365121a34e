/-
  Proved: what AppendItem of a list writer does. Conditions: texts without tabs and line ends, at most 100000 items.
-/
import Derived.Test.YtemcjnminnnefaaDoorLstA
namespace Go.Proofs.YtemcjnminnnefaaDoor.LstB
open Go.RowKit Go.Proofs.YtemcjnminnnefaaDoorW.PrintWords Go.Proofs.YtemcjnminnnefaaDoor.Common Go.Proofs.YtemcjnminnnefaaDoor.GEL Go.Proofs.YtemcjnminnnefaaDoor.LstT Go.Proofs.YtemcjnminnnefaaDoor.LstR Go.Proofs.YtemcjnminnnefaaDoor.LstA
set_option linter.unusedVariables false
set_option linter.unusedSimpArgs false
set_option maxRecDepth 1000000

theorem info53 : (Tryd.prog.info? 53).map (fun i => (i.zero, i.size, i.bytes)) = some (some (.pointer none), 1, 8) := by kernel_rfl
theorem setCell_block (W : World) (p : Addr) (u : Value) (k : Nat) (h : k ≠ p.block) : (W.setCell p u).heap[k]? = W.heap[k]? := Below.heap_setCell W p u k h
theorem set_cells (W : World) (q j : Nat) (T : Array Value) (t : Nat) (u : Value) (h : W.heap[q]? = some (.cells T t (0, 0))) : (W.setCell ⟨q, j, none⟩ u).heap[q]? = some (.cells (T.setIfInBounds j u) t (0, 0)) := by
  simp [World.setCell, Array.getElem?_modify, h]
theorem typed_ne {W : World} {a b : Nat} {T U : Array Value} {t u : Nat} (h1 : W.heap[a]? = some (.cells T t (0, 0))) (h2 : W.heap[b]? = some (.cells U u (0, 0))) (ht : t ≠ u) : a ≠ b := by
  rintro rfl
  rw [h1] at h2
  injection h2 with h2
  injection h2 with _ h2
  exact ht h2
theorem pk_ne : ∀ x, x ∈ 53 :: PK.E → x ≠ 44 := by
  intro x hx
  rcases List.mem_cons.1 hx with rfl | hx
  · decide
  · cases hx
/-- the row of items has grown by one, and is put into the writer -/
theorem LS.app {B : Nat} {w0 : World} {q : Nat} {gs : List Nat} {its : List (Nat × ByteArray)} {lev : Nat} {v : Value} {w w1 w2 : World} {g : Nat} {s : ByteArray} {v1 : Value}
    (h : LS B w0 q gs its lev v w) (hB : B ≤ w.heap.size) (hb : Below w.heap.size w w1) (hg : w1.heap[g]? = some (.cells #[.int .i64 (lev : Int), .string s] 55 (0, 0))) (hgw : w.heap.size ≤ g)
    (hr : Kd.R PK 53 w2 B (fun _ => True) v1 (gs ++ [g])) (hgr : w1.grownBy w2 v.ownBlock) :
    w2.cell? ⟨q, 3, none⟩ = some v ∧ w2.frozen? ⟨q, 3, none⟩ = false ∧ LS B w0 q (gs ++ [g]) (its ++ [(lev, s)]) lev v1 (w2.setCell ⟨q, 3, none⟩ v1) := by
  have h1 := h.below hB hb
  have hty : ∀ k, v.ownBlock = some k → ∃ cells, w1.heap[k]? = some (.cells cells 53 (0, 0)) := fun k hk => by
    obtain ⟨inner, ho⟩ := Kd.R_own h1.row
    exact own_typed ho k hk
  have key : ∀ (k : Nat) (T : Array Value) (t : TypeId), w1.heap[k]? = some (.cells T t (0, 0)) → t ≠ 53 → w2.heap[k]? = some (.cells T t (0, 0)) := fun k T t hk ht => by
    refine (hgr.block k (Array.getElem?_eq_some_iff.1 hk).1 (fun e => ?_)).trans hk
    obtain ⟨cells, hc⟩ := hty k e.symm
    rw [hk] at hc
    injection hc with hc
    injection hc with _ hc
    exact ht hc
  have hq2 := key q _ _ h1.hq (by decide)
  refine ⟨(cell_of_row _ _ _ _ _ _ hq2).trans rfl, by simp [World.frozen?, hq2], ⟨set_cells w2 q 3 _ _ v1 hq2, Kd.R_set hr hq2 pk_ne 3 v1, fun i k it h3 h4 => ?_, by simp [h.len], ?_, h.bq⟩⟩
  · have hk : w1.heap[k]? = some (.cells #[.int .i64 (it.1 : Int), .string it.2] 55 (0, 0)) ∧ B ≤ k := by
      rcases Nat.lt_or_ge i gs.length with hi | hi
      · rw [List.getElem?_append_left hi] at h3
        rw [List.getElem?_append_left (by rw [← h.len]; exact hi)] at h4
        exact h1.el i k it h3 h4
      · rw [List.getElem?_append_right hi] at h3
        rw [List.getElem?_append_right (by rw [← h.len]; exact hi), ← h.len] at h4
        have e0 : i - gs.length = 0 := by
          have := (List.getElem?_eq_some_iff.1 h3).1
          simp at this
          omega
        rw [e0] at h3 h4
        simp at h3 h4
        subst h3 h4
        exact ⟨hg, by omega⟩
    have hk2 := key k _ _ hk.1 (by decide)
    exact ⟨(setCell_block w2 _ v1 k (typed_ne hk2 hq2 (by decide))).trans hk2, hk.2⟩
  · refine (h1.bel.grown hgr (Nat.le_trans hB hb.size) (fun k hk => ?_)).setCell h.bq _
    obtain ⟨inner, ho⟩ := Kd.R_own h1.row
    exact own_base ho k hk
theorem append_c {B : Nat} {w0 : World} {q : Nat} {gs : List Nat} {its : List (Nat × ByteArray)} {lev : Nat} {v : Value} {w : World} (h : LS B w0 q gs its lev v w) (hB : B ≤ w.heap.size) (s : ByteArray) (hs : good s) (hl : gs.length ≤ 100000) :
    Calls Tryd.prog 15 #[.pointer (some ⟨q, 0, none⟩), .iface 9 (.string s)] w fun e w' => ∃ u, e = .returned u ∧ ∃ g v1, LS B w0 q (gs ++ [g]) (its ++ [(lev, s)]) lev v1 w' := by
  have hcv : w.drew.cell? ⟨q, 3, none⟩ = some v := (cell_of_row _ _ _ _ _ _ h.hq).trans rfl
  have HC := fun (W : World) (hb : Below w.heap.size w W) => Aside0.mk (analyze_c q lev s hs W _ (h.below hB hb).hq rfl)
  have HL := fun (W : World) (hb : Below w.drew.heap.size w.drew W) => Aside0.mk (h.below hB ((below_drew1 (Below.refl _ _)).trans hb))
  have HZ := fun (W : World) (hb : Below w.drew.heap.size w.drew W) => (show w.heap.size ≤ W.heap.size from hb.size)
  have HDB := fun (W : World) (hb : Below w.drew.heap.size w.drew W) => (show Below w.heap.size w W from (below_drew1 (Below.refl _ _)).trans hb)
  have HDW := fun (g : Nat) (hg : w.drew.heap.size ≤ g) => (show w.heap.size ≤ g from hg)
  have HLS := Aside0.mk h
  have HBs := Aside0.mk hB
  have HN := Aside0.mk (show (gs.length + 1) * 8 ≤ 140737488355328 by omega)
  clear h hs hB hl
  go_enter Tryd.func15, Tryd.ntmps15
  go_wp2
  refine wp_region_held_drew (S := fun w' => True) (by kernel_rfl) trivial (fun hHeld => ?_)
  refine tk0 (v := ?_) (by kernel_rfl) (by kernel_rfl) (by kernel_rfl) (fun _ _ _ h => h) (Or.inl ⟨by rfl, ?_⟩) hHeld ?_
  rotate_left
  · (intro w hSw; (try dsimp only at hSw); go_simp; try with_reducible rfl)
  try simp only [Act.put, List.setIfInBounds_toArray, List.set_cons_zero, List.set_cons_succ]
  refine tk1 (v := ?_) (by kernel_rfl) (by kernel_rfl) (by kernel_rfl) (fun _ _ _ h => h) (Or.inl ⟨by rfl, ?_⟩) hHeld ?_
  rotate_left
  · (intro w hSw; (try dsimp only at hSw); go_simp; try with_reducible rfl)
  try simp only [Act.put, List.setIfInBounds_toArray, List.set_cons_zero, List.set_cons_succ]
  refine tk2 (v := ?_) (by kernel_rfl) (by kernel_rfl) (by kernel_rfl) (fun _ _ _ h => h) (Or.inl ⟨by rfl, ?_⟩) hHeld ?_
  rotate_left
  · (intro w hSw; (try dsimp only at hSw); go_simp; try with_reducible rfl)
  try simp only [Act.put, List.setIfInBounds_toArray, List.set_cons_zero, List.set_cons_succ]
  refine tk3 (v := ?_) (by kernel_rfl) (by kernel_rfl) (by kernel_rfl) (fun _ _ _ h => h) (Or.inl ⟨by rfl, ?_⟩) hHeld ?_
  rotate_left
  · (intro w hSw; (try dsimp only at hSw); go_simp; try with_reducible rfl)
  try simp only [Act.put, List.setIfInBounds_toArray, List.set_cons_zero, List.set_cons_succ]
  refine tk5 (v := ?_) (by kernel_rfl) (by kernel_rfl) (by kernel_rfl) (fun _ _ _ h => h) (Or.inl ⟨by rfl, ?_⟩) hHeld ?_
  rotate_left
  · (intro w hSw; (try dsimp only at hSw); go_simp; try with_reducible rfl)
  try simp only [Act.put, List.setIfInBounds_toArray, List.set_cons_zero, List.set_cons_succ]
  refine tk6 (v := ?_) (by kernel_rfl) (by kernel_rfl) (by kernel_rfl) (fun _ _ _ h => h) (Or.inl ⟨by rfl, ?_⟩) hHeld ?_
  rotate_left
  · (intro w hSw; (try dsimp only at hSw); go_simp; try with_reducible rfl)
  try simp only [Act.put, List.setIfInBounds_toArray, List.set_cons_zero, List.set_cons_succ]
  refine ac4_7 (by kernel_rfl) (fun K hK => ?_) (fun K hK => ?_)
  · go_simp
    refine hK.out _ _ trivial (fun hHeld => ?_)
    clear hK K
    try simp only [Act.put, List.setIfInBounds_toArray, List.set_cons_zero, List.set_cons_succ]
    refine ac7 (by kernel_rfl) (fun K hK => ?_)
    go_simp
    (go_at_call 28; refine (HC _ (below_drew1 (Below.refl _ _))).out.mono ?_; rintro e w1 ⟨g, rfl, hg, hgw, hb⟩; have hc1 := pw_cell_below hb hcv; have HG1 := Aside0.mk hg; have HB1 := Aside0.mk hb; have HW1 := Aside0.mk hgw; clear hg hb hgw)
    try go_wp2_with fail
    refine hK.out _ _ trivial (fun hHeld => ?_)
    clear hK K
    try simp only [Act.put, List.setIfInBounds_toArray, List.set_cons_zero, List.set_cons_succ]
    refine ac8 (by kernel_rfl) (fun K hK => ?_)
    go_simp
    refine hK.out _ _ trivial (fun hHeld => ?_)
    clear hK K
    try simp only [Act.put, List.setIfInBounds_toArray, List.set_cons_zero, List.set_cons_succ]
    refine ac9 (by kernel_rfl) (fun K hK => ?_)
    refine Kd.R_append_step PK (w0 := w0) B (by rfl) (.tmp 8) (.tmp 12) 41 53 (.pointer none) 8 rfl Tryd.underlying41 info53 rfl (by decide) (by decide) v gs g [.pointer (some ⟨g, 0, none⟩)] (fun _ => True) (fun _ => False) rfl rfl rfl (fun _ hk => hk.elim) (fun _ _ => trivial) (HL _ HB1.out).out.row (HL _ HB1.out).out.bel (Nat.le_trans HBs.out (HZ _ HB1.out)) HN.out ?_
    intro v1 w2 ho hb hg hat
    obtain ⟨A1, c1, rfl⟩ := Kd.R_slice ho
    have hx := LS.app HLS.out HBs.out (HDB _ HB1.out) HG1.out (HDW _ HW1.out) ho hg
    have hc2 := hx.1
    have hf2 := hx.2.1
    have HX := Aside0.mk hx.2.2
    clear ho hb hg hat hx
    refine hK.out _ _ trivial (fun hHeld => ?_)
    clear hK K
    try simp only [Act.put, List.setIfInBounds_toArray, List.set_cons_zero, List.set_cons_succ]
    refine tk10 (v := ?_) (by kernel_rfl) (by kernel_rfl) (by kernel_rfl) (fun _ _ _ h => h) (Or.inl ⟨by rfl, ?_⟩) hHeld ?_
    rotate_left
    · (intro w hSw; (try dsimp only at hSw); go_simp; try with_reducible rfl)
    try simp only [Act.put, List.setIfInBounds_toArray, List.set_cons_zero, List.set_cons_succ]
    refine tk11 (v := ?_) (by kernel_rfl) (by kernel_rfl) (by kernel_rfl) (fun _ _ _ h => h) (Or.inl ⟨by rfl, ?_⟩) hHeld ?_
    rotate_left
    · (intro w hSw; (try dsimp only at hSw); go_simp; try with_reducible rfl)
    try simp only [Act.put, List.setIfInBounds_toArray, List.set_cons_zero, List.set_cons_succ]
    refine ac12 (by kernel_rfl) (fun K hK => ?_)
    go_simp
    refine hK.out _ _ trivial (fun hHeld => ?_)
    clear hK K
    refine wpAnyH_done (by kernel_rfl) ?_ _
    go_end0
    have hx := HX.out
    rw [show (gs ++ [g]).length = gs.length + 1 by simp] at hx
    exact ⟨_, rfl, g, _, hx⟩
  · go_simp
    (go_at_call 28; refine (HC _ (below_drew1 (Below.refl _ _))).out.mono ?_; rintro e w1 ⟨g, rfl, hg, hgw, hb⟩; have hc1 := pw_cell_below hb hcv; have HG1 := Aside0.mk hg; have HB1 := Aside0.mk hb; have HW1 := Aside0.mk hgw; clear hg hb hgw)
    try go_wp2_with fail
    refine hK.out _ _ trivial (fun hHeld => ?_)
    clear hK K
    try simp only [Act.put, List.setIfInBounds_toArray, List.set_cons_zero, List.set_cons_succ]
    refine ac4_8 (by kernel_rfl) (fun K hK => ?_) (fun K hK => ?_)
    · go_simp
      refine hK.out _ _ trivial (fun hHeld => ?_)
      clear hK K
      try simp only [Act.put, List.setIfInBounds_toArray, List.set_cons_zero, List.set_cons_succ]
      refine ac8 (by kernel_rfl) (fun K hK => ?_)
      go_simp
      refine hK.out _ _ trivial (fun hHeld => ?_)
      clear hK K
      try simp only [Act.put, List.setIfInBounds_toArray, List.set_cons_zero, List.set_cons_succ]
      refine ac9 (by kernel_rfl) (fun K hK => ?_)
      refine Kd.R_append_step PK (w0 := w0) B (by rfl) (.tmp 8) (.tmp 12) 41 53 (.pointer none) 8 rfl Tryd.underlying41 info53 rfl (by decide) (by decide) v gs g [.pointer (some ⟨g, 0, none⟩)] (fun _ => True) (fun _ => False) rfl rfl rfl (fun _ hk => hk.elim) (fun _ _ => trivial) (HL _ HB1.out).out.row (HL _ HB1.out).out.bel (Nat.le_trans HBs.out (HZ _ HB1.out)) HN.out ?_
      intro v1 w2 ho hb hg hat
      obtain ⟨A1, c1, rfl⟩ := Kd.R_slice ho
      have hx := LS.app HLS.out HBs.out (HDB _ HB1.out) HG1.out (HDW _ HW1.out) ho hg
      have hc2 := hx.1
      have hf2 := hx.2.1
      have HX := Aside0.mk hx.2.2
      clear ho hb hg hat hx
      refine hK.out _ _ trivial (fun hHeld => ?_)
      clear hK K
      try simp only [Act.put, List.setIfInBounds_toArray, List.set_cons_zero, List.set_cons_succ]
      refine tk10 (v := ?_) (by kernel_rfl) (by kernel_rfl) (by kernel_rfl) (fun _ _ _ h => h) (Or.inl ⟨by rfl, ?_⟩) hHeld ?_
      rotate_left
      · (intro w hSw; (try dsimp only at hSw); go_simp; try with_reducible rfl)
      try simp only [Act.put, List.setIfInBounds_toArray, List.set_cons_zero, List.set_cons_succ]
      refine tk11 (v := ?_) (by kernel_rfl) (by kernel_rfl) (by kernel_rfl) (fun _ _ _ h => h) (Or.inl ⟨by rfl, ?_⟩) hHeld ?_
      rotate_left
      · (intro w hSw; (try dsimp only at hSw); go_simp; try with_reducible rfl)
      try simp only [Act.put, List.setIfInBounds_toArray, List.set_cons_zero, List.set_cons_succ]
      refine ac12 (by kernel_rfl) (fun K hK => ?_)
      go_simp
      refine hK.out _ _ trivial (fun hHeld => ?_)
      clear hK K
      refine wpAnyH_done (by kernel_rfl) ?_ _
      go_end0
      have hx := HX.out
      rw [show (gs ++ [g]).length = gs.length + 1 by simp] at hx
      exact ⟨_, rfl, g, _, hx⟩
    · go_simp
      refine hK.out _ _ trivial (fun hHeld => ?_)
      clear hK K
      try simp only [Act.put, List.setIfInBounds_toArray, List.set_cons_zero, List.set_cons_succ]
      have hc8 := fun o => pw_cell_below (below_alloc (Below.refl w1.heap.size w1) o) hc1
      refine ac4 (by kernel_rfl) (fun K hK => ?_)
      go_simp
      refine hK.out _ _ trivial (fun hHeld => ?_)
      clear hK K
      try simp only [Act.put, List.setIfInBounds_toArray, List.set_cons_zero, List.set_cons_succ]
      refine ac9 (by kernel_rfl) (fun K hK => ?_)
      refine Kd.R_append_step PK (w0 := w0) B (by rfl) (.tmp 8) (.tmp 12) 41 53 (.pointer none) 8 rfl Tryd.underlying41 info53 rfl (by decide) (by decide) v gs g [.pointer (some ⟨g, 0, none⟩)] (fun _ => True) (fun _ => False) rfl rfl rfl (fun _ hk => hk.elim) (fun _ _ => trivial) (HL _ HB1.out).out.row (HL _ HB1.out).out.bel (Nat.le_trans HBs.out (HZ _ HB1.out)) HN.out ?_
      intro v1 w2 ho hb hg hat
      obtain ⟨A1, c1, rfl⟩ := Kd.R_slice ho
      have hx := LS.app HLS.out HBs.out (HDB _ HB1.out) HG1.out (HDW _ HW1.out) ho hg
      have hc2 := hx.1
      have hf2 := hx.2.1
      have HX := Aside0.mk hx.2.2
      clear ho hb hg hat hx
      refine hK.out _ _ trivial (fun hHeld => ?_)
      clear hK K
      try simp only [Act.put, List.setIfInBounds_toArray, List.set_cons_zero, List.set_cons_succ]
      refine tk10 (v := ?_) (by kernel_rfl) (by kernel_rfl) (by kernel_rfl) (fun _ _ _ h => h) (Or.inl ⟨by rfl, ?_⟩) hHeld ?_
      rotate_left
      · (intro w hSw; (try dsimp only at hSw); go_simp; try with_reducible rfl)
      try simp only [Act.put, List.setIfInBounds_toArray, List.set_cons_zero, List.set_cons_succ]
      refine tk11 (v := ?_) (by kernel_rfl) (by kernel_rfl) (by kernel_rfl) (fun _ _ _ h => h) (Or.inl ⟨by rfl, ?_⟩) hHeld ?_
      rotate_left
      · (intro w hSw; (try dsimp only at hSw); go_simp; try with_reducible rfl)
      try simp only [Act.put, List.setIfInBounds_toArray, List.set_cons_zero, List.set_cons_succ]
      refine ac12 (by kernel_rfl) (fun K hK => ?_)
      go_simp
      refine hK.out _ _ trivial (fun hHeld => ?_)
      clear hK K
      refine wpAnyH_done (by kernel_rfl) ?_ _
      go_end0
      have hx := HX.out
      rw [show (gs ++ [g]).length = gs.length + 1 by simp] at hx
      exact ⟨_, rfl, g, _, hx⟩
end Go.Proofs.YtemcjnminnnefaaDoor.LstB
