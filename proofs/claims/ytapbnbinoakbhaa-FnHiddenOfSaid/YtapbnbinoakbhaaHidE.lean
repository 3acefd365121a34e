/-
  Proved: what table.hideColumns does. Conditions: at most 100 rows of at most 2147483647 cells; no rows in header and footer.
-/
import Derived.Test.YtapbnbinoakbhaaHidR
namespace Go.Proofs.Ytapbnbinoakbhaa.HidE
open Go.RowKit Go.Proofs.YtapbnbinoakbhaaW.PrintWords Go.Proofs.Ytapbnbinoakbhaa.Common Go.Proofs.Ytapbnbinoakbhaa.ZReg Go.Proofs.Ytapbnbinoakbhaa.ZWid Go.Proofs.Ytapbnbinoakbhaa.IMap Go.Proofs.Ytapbnbinoakbhaa.GEZ Go.Proofs.Ytapbnbinoakbhaa.HidB Go.Proofs.Ytapbnbinoakbhaa.HidC Go.Proofs.Ytapbnbinoakbhaa.HidD Go.Proofs.Ytapbnbinoakbhaa.HidR
set_option linter.unusedVariables false
set_option linter.unusedSimpArgs false
set_option maxRecDepth 1000000

theorem hs0_below {B : Nat} {w0 w w' : World} {bt Bt Bm Bn mr cm m : Nat} {hs : Nat → Bool} (h : HS0 B w0 w bt Bt Bm Bn mr cm hs m) (hb : Below w.heap.size w w') : HS0 B w0 w' bt Bt Bm Bn mr cm hs m := by
  obtain ⟨T, hT, h6⟩ := h.tb
  obtain ⟨n0, hn⟩ := h.num
  obtain ⟨f, hf⟩ := h.cmp
  have k : ∀ j X, w.heap[j]? = some X → w'.heap[j]? = some X := fun j X hj => (hb.block j (Array.getElem?_eq_some_iff.1 hj).1).trans hj
  exact ⟨⟨T, k _ _ hT, h6⟩, k _ _ h.pt, k _ _ h.pm, imap_below h.map hb (imap_lt h.map), h.ne, h.bn, h.bc, ⟨n0, k _ _ hn⟩, ⟨f, imap_below hf hb (imap_lt hf)⟩⟩
theorem ht_below {B : Nat} {w0 w w' : World} {bt Bt Bm Bn mr cm m n base : Nat} {hs : Nat → Bool} {A : Option Addr} {c : Nat} {rows : List (List ByteArray)} {f25 f28 : Value} (h : HT B w0 bt Bt Bm Bn mr cm hs m n base A c rows f25 f28 w) (hB : B ≤ w.heap.size) (hb : Below w.heap.size w w') : HT B w0 bt Bt Bm Bn mr cm hs m n base A c rows f25 f28 w' := by
  obtain ⟨T, hT, ht⟩ := h.tb
  have k : ∀ j X, w.heap[j]? = some X → w'.heap[j]? = some X := fun j X hj => (hb.block j (Array.getElem?_eq_some_iff.1 hj).1).trans hj
  exact ⟨hs0_below h.h0 hb, k _ _ h.num, ⟨T, k _ _ hT, ht⟩, Kd.S_below h.rows hb, h.bel.trans (hb.mono hB), ⟨Nat.le_trans h.sz.1 hb.size, h.sz.2⟩⟩
theorem ht_first {B : Nat} {w0 w w1 : World} {bt Bt Bm Bn mr cm m n : Nat} {hs : Nat → Bool} {A : Option Addr} {c : Nat} {rows x6 : List (List ByteArray)} {v9 : Value} {x9 : List ByteArray} {T : Array Value} {f20 f25 f28 : Value} (h : HS0 B w0 w bt Bt Bm Bn mr cm hs m) (hT : w.heap[bt]? = some (.cells T 153 (0, 0))) (t20 : T[20]? = some f20) (t25 : T[25]? = some f25) (t28 : T[28]? = some f28) (t14 : ∃ u, T[14]? = some u) (hB : B ≤ bt) (hi : HI B w0 w Bn cm n (.slice A rows.length c) rows v9 x9 w1) :
    w1.cell? ⟨Bt, 0, none⟩ = some (.pointer (some ⟨bt, 0, none⟩)) ∧ w1.cell? ⟨bt, 20, none⟩ = some f20 ∧ w1.frozen? ⟨bt, 20, none⟩ = false ∧ HT B w0 bt Bt Bm Bn mr cm hs m n w.heap.size A c rows f25 f28 (w1.setCell ⟨bt, 20, none⟩ (.slice A rows.length c)) := by
  obtain ⟨n0, hn⟩ := h.num
  obtain ⟨f, hf⟩ := h.cmp
  have hlt := (Array.getElem?_eq_some_iff.1 hT).1
  have k1 := (hi.keep bt hlt (type_ne hT hn (by decide)) (not_map hT hf)).trans hT
  have h1 := hs0_next h hi
  have g : ∀ k y, k ≠ 20 → T[k]? = some y → (T.setIfInBounds 20 (.slice A rows.length c))[k]? = some y := fun k y hk hy => by
    rw [Array.getElem?_setIfInBounds, if_neg (Ne.symm hk)]; exact hy
  obtain ⟨u14, t14⟩ := t14
  refine ⟨(cell_of_row _ _ _ _ _ _ h1.pt).trans rfl, (cell_of_row _ _ _ _ _ _ k1).trans t20, by simp [World.frozen?, k1], ⟨hs0_setT h1 20 (by decide) _, (set_block w1 bt 20 _ _ (type_ne hi.num k1 (by decide))).trans hi.num, ⟨T.setIfInBounds 20 (.slice A rows.length c), by simp [World.setCell, Array.getElem?_modify, k1], ?_, g 25 _ (by decide) t25, g 28 _ (by decide) t28, ⟨_, g 14 _ (by decide) t14⟩⟩, ?_, hi.bel.setCell hB _, ⟨by simpa using hi.size, (Array.getElem?_eq_some_iff.1 hn).1, imap_lt hf, hlt, hB⟩⟩⟩
  · rw [Array.getElem?_setIfInBounds, if_pos rfl, if_pos (Array.getElem?_eq_some_iff.1 t20).1]
  · exact Kd.S_mono (Kd.S_far (Kd.S_bound hi.rows) (fun k hk => by have := hk.2.1; show k ≠ bt; omega) _) (fun k hk => trivial)

set_option maxHeartbeats 8000000 in
theorem cols_c (B : Nat) (w0 w : World) (bt mr : Nat) (hs : Nat → Bool) (m : Nat) (T : Array Value) (A0 : Option Addr) (c0 : Nat) (l0 : List (List ByteArray)) (ok : Nat → Prop)
    (hT : w.heap[bt]? = some (.cells T 153 (0, 0))) (h6 : T[6]? = some (.map (some mr))) (h20 : T[20]? = some (.slice A0 l0.length c0)) (h25 : T[25]? = some (.slice none 0 0)) (h28 : T[28]? = some (.slice none 0 0)) (h14 : ∃ u, T[14]? = some u)
    (hm : imap w .i64 mr (mapF hs m)) (hB : B ≤ w.heap.size) (hBt : B ≤ bt) (hbw : Below B w0 w)
    (HF : Kd.F RS w ok A0 l0.length l0) (hok : ∀ k, ok k → k < w.heap.size) (hl : l0.length ≤ 100) (hr : ∀ i : Nat, (rd_L1 l0 (i : Int)).length ≤ 2147483647) :
    Calls Try.prog 64 #[.pointer (some ⟨bt, 0, none⟩)] w fun e w' => ∃ u, e = .returned u ∧ ∃ A c, Kd.S RS 162 w' w.heap.size (fun _ => True) (.slice A (rowsTo (hdn hs m) l0 l0.length).length c) (rowsTo (hdn hs m) l0 l0.length) ∧ w'.cell? ⟨bt, 20, none⟩ = some (.slice A (rowsTo (hdn hs m) l0 l0.length).length c) ∧ w'.cell? ⟨bt, 14, none⟩ = some (.int .i64 (numTo (hdn hs m) l0 0 l0.length : Nat)) ∧ Below B w0 w' := by
  obtain ⟨W, hW⟩ : ∃ W, W = W4 w bt := ⟨_, rfl⟩
  have hsz : W.heap.size = w.heap.size + 1 + 1 + 1 + 1 := by rw [hW, w4_size]
  have H0 := w4_start (w0 := w0) (bt := bt) hT h6 hm hB
  have HS := below_drew1 (w4_below w bt)
  have hn := w4_num w bt
  rw [← hW] at H0 HS hn
  have H0 := hs0_below H0 (below_drew1 (Below.refl _ _))
  have hTd : W.drew.heap[bt]? = some (.cells T 153 (0, 0)) := (HS.block _ (Array.getElem?_eq_some_iff.1 hT).1).trans hT
  have hnd : W.drew.heap[w.heap.size + 1 + 1 + 1]? = some (.cells #[.int .i64 ((0 : Nat) : Int)] 3 (0, 0)) := hn
  have hc20 : W.drew.cell? ⟨bt, 20, none⟩ = some (.slice A0 l0.length c0) := (cell_of_row _ _ _ _ _ _ hTd).trans h20
  have hct0 : W.drew.cell? ⟨w.heap.size, 0, none⟩ = some (.pointer (some ⟨bt, 0, none⟩)) := (cell_of_row _ _ _ _ _ _ H0.pt).trans rfl
  have hszd : W.drew.heap.size = w.heap.size + 1 + 1 + 1 + 1 := hsz
  have hbB : B ≤ W.drew.heap.size := by omega
  have hbW : Below B w0 W.drew := hbw.trans (HS.mono hB)
  have C1 := Aside0.mk (hide1_c B w0 W.drew bt w.heap.size (w.heap.size + 1 + 1) (w.heap.size + 1 + 1 + 1) mr (w.heap.size + 1) hs m 0 H0 hbB hbW hnd A0 c0 l0 ok (Kd.F_below HF HS) (fun k hk => by have := hok k hk; omega) hl hr)
  have HG := fun n A c rows x9 v9 w1 hi => Aside0.mk (ht_first (n := n) (A := A) (c := c) (rows := rows) (x9 := x9) (v9 := v9) (w1 := w1) (x6 := rows) H0 hTd h20 h25 h28 h14 hBt hi)
  have HW := Aside0.mk hW
  have HSZ := Aside0.mk (And.intro hszd hB)
  obtain ⟨hd, hhd⟩ : ∃ hd, hd = hdn hs m := ⟨_, rfl⟩
  rw [← hhd] at C1 ⊢
  have HHD := Aside0.mk hhd
  clear HF hr hok hn hW hsz hnd hTd HS H0 hszd hbB hbW hhd hT h6 h20 h25 h28 h14 hm hbw
  have hmf : ∀ (fn : Fn) (first cap : Array Value) (w : World), (Instr.makeFunc fn first cap).run Try.prog w = .ok (.func fn first cap) w := fun _ _ _ _ => rfl
  have hmm := @run_makeMap Try.prog
  go_enter Try.func64, Try.ntmps64
  go_wp2
  rw [show (((w.alloc (.cells #[.pointer (some ⟨bt, 0, none⟩)] 131)).alloc (.map #[] 0)).alloc (.cells #[.map (some (w.heap.size + 1))] 155)).alloc (.cells #[.int .i64 0] 3) = W from HW.out.symm]
  refine wp_region_held_drew (S := fun w' => w'.cell? ⟨w.heap.size, 0, none⟩ = some (.pointer (some ⟨bt, 0, none⟩))) (by kernel_rfl) hct0 (fun hHeld => ?_)
  refine tk0 (v := ?_) (by kernel_rfl) (by kernel_rfl) (by kernel_rfl) (fun _ _ _ h => h) (Or.inl ⟨by rfl, ?_⟩) hHeld ?_
  rotate_left
  · (intro w hSw; (try dsimp only at hSw); go_simp; try with_reducible rfl)
  try simp only [Act.put, List.setIfInBounds_toArray, List.set_cons_zero, List.set_cons_succ]
  refine tk1 (v := ?_) (by kernel_rfl) (by kernel_rfl) (by kernel_rfl) (fun _ _ _ h => h) (Or.inl ⟨by rfl, ?_⟩) hHeld ?_
  rotate_left
  · (intro w hSw; (try dsimp only at hSw); go_simp; try with_reducible rfl)
  try simp only [Act.put, List.setIfInBounds_toArray, List.set_cons_zero, List.set_cons_succ]
  refine tk2 (v := ?_) (by kernel_rfl) (by kernel_rfl) (by kernel_rfl) (fun _ _ _ h => h) (Or.inl ⟨by rfl, ?_⟩) hHeld ?_
  rotate_left
  · (intro w hSw; (try dsimp only at hSw); go_simp; try with_reducible rfl)
  try simp only [Act.put, List.setIfInBounds_toArray, List.set_cons_zero, List.set_cons_succ]
  refine tk3 (v := ?_) (by kernel_rfl) (by kernel_rfl) (by kernel_rfl) (fun _ _ _ h => h) (Or.inl ⟨by rfl, ?_⟩) hHeld ?_
  rotate_left
  · (intro w hSw; (try dsimp only at hSw); go_simp; try with_reducible rfl)
  try simp only [Act.put, List.setIfInBounds_toArray, List.set_cons_zero, List.set_cons_succ]
  refine tk4 (v := ?_) (by kernel_rfl) (by kernel_rfl) (by kernel_rfl) (fun _ _ _ h => h) (Or.inl ⟨by rfl, ?_⟩) hHeld ?_
  rotate_left
  · (intro w hSw; (try dsimp only at hSw); go_simp; try with_reducible rfl)
  try simp only [Act.put, List.setIfInBounds_toArray, List.set_cons_zero, List.set_cons_succ]
  refine ac5 (by kernel_rfl) (fun K hK => ?_)
  go_simp
  refine hK.out _ _ hHeld (fun hHeld => ?_)
  clear hK K
  try simp only [Act.put, List.setIfInBounds_toArray, List.set_cons_zero, List.set_cons_succ]
  refine ac6 (by kernel_rfl) (fun K hK => ?_)
  go_simp
  (go_at_call 76; refine C1.out.mono ?_; rintro e w1 ⟨v, rfl, hi⟩; obtain ⟨A1, c1, rfl⟩ := Kd.S_slice hi.rows; obtain ⟨hct1, hf1, hz1, ht1⟩ := (HG _ _ _ _ _ _ _ hi).out; have HT1 := Aside0.mk ht1; clear hi ht1)
  try go_wp2_with fail
  refine hK.out _ _ hct1 (fun hHeld => ?_)
  clear hK K
  try simp only [Act.put, List.setIfInBounds_toArray, List.set_cons_zero, List.set_cons_succ]
  refine tk7 (v := ?_) (by kernel_rfl) (by kernel_rfl) (by kernel_rfl) (fun _ _ _ h => h) (Or.inl ⟨by rfl, ?_⟩) hHeld ?_
  rotate_left
  · (intro w hSw; (try dsimp only at hSw); go_simp; try with_reducible rfl)
  try simp only [Act.put, List.setIfInBounds_toArray, List.set_cons_zero, List.set_cons_succ]
  refine tk8 (v := ?_) (by kernel_rfl) (by kernel_rfl) (by kernel_rfl) (fun _ _ _ h => h) (Or.inl ⟨by rfl, ?_⟩) hHeld ?_
  rotate_left
  · (intro w hSw; (try dsimp only at hSw); go_simp; try with_reducible rfl)
  try simp only [Act.put, List.setIfInBounds_toArray, List.set_cons_zero, List.set_cons_succ]
  refine ac9 (by kernel_rfl) (fun K hK => ?_)
  go_simp
  refine hK.out _ _ HT1.out.cells.1 (fun hHeld => ?_)
  clear hK K
  try simp only [Act.put, List.setIfInBounds_toArray, List.set_cons_zero, List.set_cons_succ]
  refine wpAnyH_done (by kernel_rfl) ?_ _
  clear HG hc20 hct0 hct1 hf1 hz1 C1
  skip
  obtain ⟨V2, hV2⟩ : ∃ V, V = w1.setCell ⟨bt, 20, none⟩ (.slice A1 (rowsTo hd l0 l0.length).length c1) := ⟨_, rfl⟩
  rw [← hV2] at HT1 ⊢
  have HD2 := Aside0.mk (ht_below HT1.out (Nat.le_trans (Nat.le_trans HSZ.out.2 (by have := HSZ.out.1; omega)) HT1.out.sz.1) (below_drew1 (Below.refl _ _)))
  have hct20 := HD2.out.cells.1
  have hcl2 := HD2.out.cells.2.2.1
  have C2 := Aside0.mk (hide1_c B w0 V2.drew bt w.heap.size (w.heap.size + 1 + 1) (w.heap.size + 1 + 1 + 1) mr (w.heap.size + 1) hs m _ HD2.out.h0 (Nat.le_trans (Nat.le_trans HSZ.out.2 (by have := HSZ.out.1; omega)) HD2.out.sz.1) HD2.out.bel HD2.out.num none 0 [] (fun _ => False) (Kd.F_nil _ _ _) (fun k hk => hk.elim) (by decide) (fun i => by simp [rd_L1]))
  simp only [List.length_nil] at C2
  clear hV2
  go_wp2
  refine wp_region_held_drew (S := fun w' => w'.cell? ⟨w.heap.size, 0, none⟩ = some (.pointer (some ⟨bt, 0, none⟩))) (by kernel_rfl) hct20 (fun hHeld => ?_)
  refine tk0 (v := ?_) (by kernel_rfl) (by kernel_rfl) (by kernel_rfl) (fun _ _ _ h => h) (Or.inl ⟨by rfl, ?_⟩) hHeld ?_
  rotate_left
  · (intro w hSw; (try dsimp only at hSw); go_simp; try with_reducible rfl)
  try simp only [Act.put, List.setIfInBounds_toArray, List.set_cons_zero, List.set_cons_succ]
  refine tk1 (v := ?_) (by kernel_rfl) (by kernel_rfl) (by kernel_rfl) (fun _ _ _ h => h) (Or.inl ⟨by rfl, ?_⟩) hHeld ?_
  rotate_left
  · (intro w hSw; (try dsimp only at hSw); go_simp; try with_reducible rfl)
  try simp only [Act.put, List.setIfInBounds_toArray, List.set_cons_zero, List.set_cons_succ]
  refine tk2 (v := ?_) (by kernel_rfl) (by kernel_rfl) (by kernel_rfl) (fun _ _ _ h => h) (Or.inl ⟨by rfl, ?_⟩) hHeld ?_
  rotate_left
  · (intro w hSw; (try dsimp only at hSw); go_simp; try with_reducible rfl)
  try simp only [Act.put, List.setIfInBounds_toArray, List.set_cons_zero, List.set_cons_succ]
  refine tk3 (v := ?_) (by kernel_rfl) (by kernel_rfl) (by kernel_rfl) (fun _ _ _ h => h) (Or.inl ⟨by rfl, ?_⟩) hHeld ?_
  rotate_left
  · (intro w hSw; (try dsimp only at hSw); go_simp; try with_reducible rfl)
  try simp only [Act.put, List.setIfInBounds_toArray, List.set_cons_zero, List.set_cons_succ]
  refine tk4 (v := ?_) (by kernel_rfl) (by kernel_rfl) (by kernel_rfl) (fun _ _ _ h => h) (Or.inl ⟨by rfl, ?_⟩) hHeld ?_
  rotate_left
  · (intro w hSw; (try dsimp only at hSw); go_simp; try with_reducible rfl)
  try simp only [Act.put, List.setIfInBounds_toArray, List.set_cons_zero, List.set_cons_succ]
  refine ac5 (by kernel_rfl) (fun K hK => ?_)
  go_simp
  refine hK.out _ _ hHeld (fun hHeld => ?_)
  clear hK K
  try simp only [Act.put, List.setIfInBounds_toArray, List.set_cons_zero, List.set_cons_succ]
  refine ac6 (by kernel_rfl) (fun K hK => ?_)
  go_simp
  (go_at_call 76; refine C2.out.mono ?_; rintro e w2 ⟨v, rfl, hi⟩; obtain ⟨A2, c2, rfl⟩ := Kd.S_slice hi.rows; have ht := HD2.out.call hi; have hct21 := ht.cells.1; have hf := ht.cells.2.2.1; have hz := ht.cells.2.2.2.2.2.1 25; have HT2 := Aside0.mk (ht.set 25 (by decide) (.slice A2 (rowsTo (hdn hs m) [] 0).length c2)); clear hi ht)
  try go_wp2_with fail
  refine hK.out _ _ hct21 (fun hHeld => ?_)
  clear hK K
  try simp only [Act.put, List.setIfInBounds_toArray, List.set_cons_zero, List.set_cons_succ]
  refine tk7 (v := ?_) (by kernel_rfl) (by kernel_rfl) (by kernel_rfl) (fun _ _ _ h => h) (Or.inl ⟨by rfl, ?_⟩) hHeld ?_
  rotate_left
  · (intro w hSw; (try dsimp only at hSw); go_simp; try with_reducible rfl)
  try simp only [Act.put, List.setIfInBounds_toArray, List.set_cons_zero, List.set_cons_succ]
  refine tk8 (v := ?_) (by kernel_rfl) (by kernel_rfl) (by kernel_rfl) (fun _ _ _ h => h) (Or.inl ⟨by rfl, ?_⟩) hHeld ?_
  rotate_left
  · (intro w hSw; (try dsimp only at hSw); go_simp; try with_reducible rfl)
  try simp only [Act.put, List.setIfInBounds_toArray, List.set_cons_zero, List.set_cons_succ]
  refine ac9 (by kernel_rfl) (fun K hK => ?_)
  go_simp
  refine hK.out _ _ HT2.out.cells.1 (fun hHeld => ?_)
  clear hK K
  try simp only [Act.put, List.setIfInBounds_toArray, List.set_cons_zero, List.set_cons_succ]
  refine wpAnyH_done (by kernel_rfl) ?_ _
  clear hct20 hct21 hcl2 hf hz C2 HD2
  simp only [if_true, if_neg (show ¬ (25 : Nat) = 28 by decide)] at HT2
  skip
  obtain ⟨V3, hV3⟩ : ∃ V, V = w2.setCell ⟨bt, 25, none⟩ (.slice A2 (rowsTo (hdn hs m) [] 0).length c2) := ⟨_, rfl⟩
  rw [← hV3] at HT2 ⊢
  have HD3 := Aside0.mk (ht_below HT2.out (Nat.le_trans (Nat.le_trans HSZ.out.2 (by have := HSZ.out.1; omega)) HT2.out.sz.1) (below_drew1 (Below.refl _ _)))
  have hct30 := HD3.out.cells.1
  have hcl3 := HD3.out.cells.2.2.2.1
  have C3 := Aside0.mk (hide1_c B w0 V3.drew bt w.heap.size (w.heap.size + 1 + 1) (w.heap.size + 1 + 1 + 1) mr (w.heap.size + 1) hs m _ HD3.out.h0 (Nat.le_trans (Nat.le_trans HSZ.out.2 (by have := HSZ.out.1; omega)) HD3.out.sz.1) HD3.out.bel HD3.out.num none 0 [] (fun _ => False) (Kd.F_nil _ _ _) (fun k hk => hk.elim) (by decide) (fun i => by simp [rd_L1]))
  simp only [List.length_nil] at C3
  clear hV3
  go_wp2
  refine wp_region_held_drew (S := fun w' => w'.cell? ⟨w.heap.size, 0, none⟩ = some (.pointer (some ⟨bt, 0, none⟩))) (by kernel_rfl) hct30 (fun hHeld => ?_)
  refine tk0 (v := ?_) (by kernel_rfl) (by kernel_rfl) (by kernel_rfl) (fun _ _ _ h => h) (Or.inl ⟨by rfl, ?_⟩) hHeld ?_
  rotate_left
  · (intro w hSw; (try dsimp only at hSw); go_simp; try with_reducible rfl)
  try simp only [Act.put, List.setIfInBounds_toArray, List.set_cons_zero, List.set_cons_succ]
  refine tk1 (v := ?_) (by kernel_rfl) (by kernel_rfl) (by kernel_rfl) (fun _ _ _ h => h) (Or.inl ⟨by rfl, ?_⟩) hHeld ?_
  rotate_left
  · (intro w hSw; (try dsimp only at hSw); go_simp; try with_reducible rfl)
  try simp only [Act.put, List.setIfInBounds_toArray, List.set_cons_zero, List.set_cons_succ]
  refine tk2 (v := ?_) (by kernel_rfl) (by kernel_rfl) (by kernel_rfl) (fun _ _ _ h => h) (Or.inl ⟨by rfl, ?_⟩) hHeld ?_
  rotate_left
  · (intro w hSw; (try dsimp only at hSw); go_simp; try with_reducible rfl)
  try simp only [Act.put, List.setIfInBounds_toArray, List.set_cons_zero, List.set_cons_succ]
  refine tk3 (v := ?_) (by kernel_rfl) (by kernel_rfl) (by kernel_rfl) (fun _ _ _ h => h) (Or.inl ⟨by rfl, ?_⟩) hHeld ?_
  rotate_left
  · (intro w hSw; (try dsimp only at hSw); go_simp; try with_reducible rfl)
  try simp only [Act.put, List.setIfInBounds_toArray, List.set_cons_zero, List.set_cons_succ]
  refine tk4 (v := ?_) (by kernel_rfl) (by kernel_rfl) (by kernel_rfl) (fun _ _ _ h => h) (Or.inl ⟨by rfl, ?_⟩) hHeld ?_
  rotate_left
  · (intro w hSw; (try dsimp only at hSw); go_simp; try with_reducible rfl)
  try simp only [Act.put, List.setIfInBounds_toArray, List.set_cons_zero, List.set_cons_succ]
  refine ac5 (by kernel_rfl) (fun K hK => ?_)
  go_simp
  refine hK.out _ _ hHeld (fun hHeld => ?_)
  clear hK K
  try simp only [Act.put, List.setIfInBounds_toArray, List.set_cons_zero, List.set_cons_succ]
  refine ac6 (by kernel_rfl) (fun K hK => ?_)
  go_simp
  (go_at_call 76; refine C3.out.mono ?_; rintro e w3 ⟨v, rfl, hi⟩; obtain ⟨A3, c3, rfl⟩ := Kd.S_slice hi.rows; have ht := HD3.out.call hi; have hct31 := ht.cells.1; have hf := ht.cells.2.2.2.1; have hz := ht.cells.2.2.2.2.2.1 28; have HT3 := Aside0.mk (ht.set 28 (by decide) (.slice A3 (rowsTo (hdn hs m) [] 0).length c3)); clear hi ht)
  try go_wp2_with fail
  refine hK.out _ _ hct31 (fun hHeld => ?_)
  clear hK K
  try simp only [Act.put, List.setIfInBounds_toArray, List.set_cons_zero, List.set_cons_succ]
  refine tk7 (v := ?_) (by kernel_rfl) (by kernel_rfl) (by kernel_rfl) (fun _ _ _ h => h) (Or.inl ⟨by rfl, ?_⟩) hHeld ?_
  rotate_left
  · (intro w hSw; (try dsimp only at hSw); go_simp; try with_reducible rfl)
  try simp only [Act.put, List.setIfInBounds_toArray, List.set_cons_zero, List.set_cons_succ]
  refine tk8 (v := ?_) (by kernel_rfl) (by kernel_rfl) (by kernel_rfl) (fun _ _ _ h => h) (Or.inl ⟨by rfl, ?_⟩) hHeld ?_
  rotate_left
  · (intro w hSw; (try dsimp only at hSw); go_simp; try with_reducible rfl)
  try simp only [Act.put, List.setIfInBounds_toArray, List.set_cons_zero, List.set_cons_succ]
  refine ac9 (by kernel_rfl) (fun K hK => ?_)
  go_simp
  refine hK.out _ _ HT3.out.cells.1 (fun hHeld => ?_)
  clear hK K
  try simp only [Act.put, List.setIfInBounds_toArray, List.set_cons_zero, List.set_cons_succ]
  refine wpAnyH_done (by kernel_rfl) ?_ _
  clear hct30 hct31 hcl3 hf hz C3 HD3
  obtain ⟨V4, hV4⟩ : ∃ V, V = w3.setCell ⟨bt, 28, none⟩ (.slice A3 (rowsTo (hdn hs m) [] 0).length c3) := ⟨_, rfl⟩
  rw [← hV4] at HT3 ⊢
  obtain ⟨e1, e2, _, _, e5, e6, ⟨u14, e7⟩, e8⟩ := HT3.out.cells
  have e9 := e6 14
  have HT4 := fun u => Aside0.mk (HT3.out.set 14 (by decide) u)
  have hs3 := (HT3.out.cells).2.2.2.2.2.2.2
  clear e6 hV4
  have e8b : ∀ u, (V4.setCell ⟨bt, 14, none⟩ u).cell? ⟨w.heap.size + 1 + 1, 0, none⟩ = some (.map (some (w.heap.size + 1))) := fun u => (HT4 u).out.cells.2.2.2.2.2.2.2
  go_wp2
  go_ret
  have h := (HT4 (.int .i64 (numTo hd l0 0 l0.length : Nat))).out
  exact ⟨_, rfl, A1, c1, Kd.S_lower h.rows (by have := HSZ.out.1; omega), h.cells.2.1, World.cell?_setCell_same _ _ _ e7, h.bel⟩
end Go.Proofs.Ytapbnbinoakbhaa.HidE
