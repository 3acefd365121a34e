/-
  Proved: the callback of the script (what is evicted goes into a row), and removeOldest of a cache with it. Conditions: the cache's state, the row's state.
-/
import Derived.Test.YtphnnbbgcnilgaaCacW
namespace Go.Proofs.Ytphnnbbgcnilgaa.CacG
open Go Go.RowKit Go.Proofs.YtphnnbbgcnilgaaW.PrintWords Go.Proofs.Ytphnnbbgcnilgaa.Common Go.Proofs.Ytphnnbbgcnilgaa.IMapN Go.Proofs.Ytphnnbbgcnilgaa.CacA Go.Proofs.Ytphnnbbgcnilgaa.CacS Go.Proofs.Ytphnnbbgcnilgaa.CacT Go.Proofs.Ytphnnbbgcnilgaa.CacU Go.Proofs.Ytphnnbbgcnilgaa.CacV Go.Proofs.Ytphnnbbgcnilgaa.CacW
set_option linter.unusedVariables false
set_option linter.unusedSimpArgs false
set_option maxRecDepth 1000000
/-- the callback's value -/
def evF (b8 : Nat) : Value := .func (.func 28) #[] #[.pointer (some ⟨b8, 0, none⟩)]
/-- the row of what is gone -/
structure GS (b8 B : Nat) (gv : Value) (G : List KV) (W : World) : Prop where
  hb : W.heap[b8]? = some (.cells #[gv] 40 (0, 0))
  row : kpair.R 64 W B (fun _ => True) gv G
  le : B ≤ W.heap.size
theorem info64 : (Try.prog.info? 64).map (fun i => (i.zero, i.size, i.bytes)) = some (some (.agg #[.int .i64 0, .int .i64 0]), kpair.sz, 16) := by kernel_rfl
/-- what the callback may write -/
def gw (b8 : Nat) (gv : Value) (b : Nat) : Prop := b = b8 ∨ some b = gv.ownBlock
set_option maxHeartbeats 1000000 in
theorem evict1 {b8 B : Nat} {gv : Value} {G : List KV} {k v : Int} {w : World} (h : GS b8 B gv G w) (hl : G.length ≤ 100000) :
    Calls Try.prog 28 #[.int .i64 k, .int .i64 v, .pointer (some ⟨b8, 0, none⟩)] w fun e w' => ∃ u, e = .returned u ∧ ∃ gv', GS b8 B gv' (G ++ [(k, v)]) w' ∧ KeptB (gw b8 gv) w w' ∧ ∀ b, gw b8 gv' b → gw b8 gv b ∨ w.heap.size ≤ b := by
  have hc : w.cell? ⟨b8, 0, none⟩ = some gv := (blk_cell h.hb 0).trans rfl
  have HL := Aside0.mk h
  clear h
  go_enter Try.func28, Try.ntmps28
  go_wp2_with ((with_reducible refine gate_builtin (b := .append) (xs := #[.tmp 5, .tmp 9]) rfl ?_); at_builtin; refine Kd.R_append kpair (w0 := w) B rfl (.tmp 5) (.tmp 9) 40 64 (.agg #[.int .i64 0, .int .i64 0]) 16 rfl Try.underlying40 info64 rfl (by decide) (by omega) gv G (k, v) [.int .i64 k, .int .i64 v] (fun _ => True) (fun _ => False) rfl rfl ?aP (fun _ hk => hk.elim) ?aF ?aO ?aB ?aS ?aL ?_; (case aP => exact ⟨[.int .i64 k], [.int .i64 v], rfl, rfl, rfl⟩); (case aF => exact (fun _ _ => trivial)); (case aO => exact HL.out.row); (case aB => exact Below.refl _ _); (case aS => exact HL.out.le); (case aL => omega); intro v2 w2 ho hb hg hat; obtain ⟨A6, c6, rfl⟩ := Kd.R_slice ho; (have hb8 : w2.heap[b8]? = some (.cells #[gv] 40 (0, 0)) := (hg.block b8 (Array.getElem?_eq_some_iff.1 HL.out.hb).1 (Kd.R_ne HL.out.row HL.out.hb (by decide))).trans HL.out.hb); have HO := Aside0.mk ho; have HB8 := Aside0.mk hb8; have HG := Aside0.mk hg; have HA := Aside0.mk hat; have hf := blk_frozen hb8 0; have hc2 : w2.cell? ⟨b8, 0, none⟩ = some gv := (blk_cell hb8 0).trans rfl; clear ho hb hg hat hb8)
  go_end0
  have hlen : (G ++ [(k, v)]).length = G.length + 1 := by simp
  have HO2 := HO.out
  rw [hlen] at HO2
  refine ⟨_, rfl, _, ⟨(set_blk _ _ _ _ _ _ HB8.out).trans rfl, Kd.R_set HO2 HB8.out (fun q hq => ?_) 0 _, ?_⟩, ?_, ?_⟩
  · have : q = 64 := by simpa using (show q ∈ [64] from hq)
    subst this; decide
  · rw [World.size_setCell]; exact Nat.le_trans HL.out.le HG.out.size
  · exact ((KeptB.refl (gw b8 gv) w).grown HG.out (fun k e => Or.inl (Or.inr e.symm))).set (Or.inl (Or.inl rfl)) _
  · rintro b (h | h)
    · exact Or.inl (Or.inl h)
    · have ha := HA.out
      simp only [List.length_append, List.length_singleton] at h ha
      rcases ha with ha | ⟨b', ha, hb'⟩
      · exact Or.inl (Or.inr (h.trans ha))
      · rw [ha] at h
        injection h with h
        exact Or.inr (by omega)
theorem neq_func (w : World) (b8 : Nat) : (binOp .neq 90 (evF b8) .nilFunc).run Try.prog w = .ok (.bool true) w := by kernel_rfl
theorem GS.drew {b8 B : Nat} {gv : Value} {G : List KV} {W : World} (g : GS b8 B gv G W) : GS b8 B gv G W.drew := ⟨g.hb, Kd.R_drew g.row, g.le⟩
/-- the blocks that a call with a callback may write -/
def ow (C m : Nat) (l : List E) (b8 : Nat) (gv : Value) (b : Nat) : Prop := own C m l b ∨ gw b8 gv b
theorem gw_not {ev : Value} {C m : Nat} {sz hits miss : Int} {l : List E} {b8 B : Nat} {gv : Value} {G : List KV} {W : World} (h : CS ev C sz m hits miss l W) (g : GS b8 B gv G W) : ∀ b, own C m l b → ¬ gw b8 gv b := by
  rintro b hb (rfl | e)
  · exact own_typ h g.hb (by decide) (by decide) hb
  · obtain ⟨inner, ho, _⟩ := g.row.2
    obtain ⟨cells, hc⟩ := own_typed ho b e.symm
    exact own_typ h hc (by decide) (by decide) hb
theorem GS.keep {ev : Value} {C m : Nat} {sz hits miss : Int} {l : List E} {b8 B : Nat} {gv : Value} {G : List KV} {W W1 : World} (h : CS ev C sz m hits miss l W) (g : GS b8 B gv G W) (k : KeptB (own C m l) W W1) : GS b8 B gv G W1 := by
  have hn := gw_not h g
  refine ⟨(k.blk b8 (Array.getElem?_eq_some_iff.1 g.hb).1 (fun ho => hn b8 ho (Or.inl rfl))).trans g.hb, ?_, Nat.le_trans g.le k.size⟩
  refine Kd.R_mono (Kd.R_step (Kd.R_bound g.row) (fun b hb hlt => k.blk b hlt (fun ho => ?_))) (fun _ _ => trivial)
  obtain ⟨_, _, _, q, hq, cells, hc⟩ := hb
  have : q = 64 := by simpa using (show q ∈ [64] from hq)
  subst this
  exact own_typ h hc (by decide) (by decide) ho
theorem CS.keepG {ev : Value} {C m : Nat} {sz hits miss : Int} {l : List E} {b8 B : Nat} {gv : Value} {G : List KV} {W W1 : World} (h : CS ev C sz m hits miss l W) (g : GS b8 B gv G W) (k : KeptB (gw b8 gv) W W1) : CS ev C sz m hits miss l W1 :=
  CS.frame h (fun b hb => k.blk b (CS.lt h b hb) (gw_not h g b hb))
set_option maxHeartbeats 1000000 in
theorem oldest_e {C m : Nat} {sz hits miss : Int} {A : List E} {g : Nat} {k v : Int} {b8 B : Nat} {gv : Value} {G : List KV} {w : World} (h : CS (evF b8) C sz m hits miss (A ++ [(g, k, v)]) w) (hG : GS b8 B gv G w) (hl : G.length ≤ 100000) :
    Calls Try.prog 51 #[.pointer (some ⟨C, 0, none⟩)] w fun e w' => ∃ u, e = .returned u ∧ CS (evF b8) C sz m hits miss A w' ∧ (∃ gv', GS b8 B gv' (G ++ [(k, v)]) w' ∧ ∀ b, gw b8 gv' b → gw b8 gv b ∨ w.heap.size ≤ b) ∧ KeptB (ow C m (A ++ [(g, k, v)]) b8 gv) w w' := by
  have q3 : w.cell? ⟨C, 3, none⟩ = some (.pointer (some ⟨g, 0, none⟩)) := by
    rw [blk_cell h.dl.hd 3, lastO_append _ _ _ _ none]; rfl
  have q4 : w.cell? ⟨C, 4, none⟩ = some (.func (.func 28) #[] #[.pointer (some ⟨b8, 0, none⟩)]) := (blk_cell h.dl.hd 4).trans rfl
  have hs := (seg_append _ _ _ _).1 h.dl.sg
  have g0 : w.cell? ⟨g, 0, none⟩ = some (.int .i64 k) := (blk_cell hs.2.1 0).trans rfl
  have g1 : w.cell? ⟨g, 1, none⟩ = some (.int .i64 v) := (blk_cell hs.2.1 1).trans rfl
  have HL := Aside0.mk h
  have HM := Aside0.mk h.mne
  have HG := Aside0.mk hG
  have hnf : (binOp .neq 90 (.func (.func 28) #[] #[.pointer (some ⟨b8, 0, none⟩)]) .nilFunc).run Try.prog w = .ok (.bool true) w := neq_func w b8
  clear h hG hs
  go_enter Try.func51, Try.ntmps51
  go_wp2
  go_still_tail 12, (by kernel_rfl)
  go_wp2_with (first
    | (go_at_call 28; refine (evict1 (GS.drew HG.out) hl).mono ?_; rintro e w1 ⟨u, rfl, gv', h1, h2, h3⟩; have HC1 := Aside0.mk (CS.keepG (CS.frame (W1 := w.drew) HL.out (fun _ _ => rfl)) (GS.drew HG.out) h2); have HG1 := Aside0.mk h1; have HK1 := Aside0.mk h2; have HW1 := Aside0.mk h3; clear h1 h2 h3)
    | (go_at_call 53; refine (remove_c A [] HC1.out.dl).mono ?_; rintro e w2 ⟨u2, rfl, h1, h2, h3⟩; rw [List.append_nil] at h1; have H1 := Aside0.mk h1; have H2 := Aside0.mk h2; have H3 := Aside0.mk h3; have p1 : w2.cell? ⟨C, 1, none⟩ = some (.map (some m)) := (blk_cell h1.hd 1).trans rfl; have p2 : w2.cell? ⟨g, 0, none⟩ = some (.int .i64 k) := (blk_cell h2 0).trans rfl; clear h1 h2 h3))
  obtain ⟨w3, hdel, d1, d2, d3⟩ := imapN_delete (P := Try.prog) (imapN_of_heap (w' := w2.drew) (imapN_away HC1.out.mp H3.out HM.out.1 HM.out.2) rfl) Try.underlying91 Try.underlying3 k (HL.out.kr (g, k, v) (by simp)) (by rw [lookE_mid A [] g k v (fun x hx => (nk_mid HL.out.nk).1 x (by simp [hx]))]; simp) #[91, 3] rfl 0
  have D1 := Aside0.mk d1
  have D2 := Aside0.mk d2
  clear d1 d2 d3
  go_still_tail 8, (by kernel_rfl)
  go_wp2
  go_end0
  have hC : w3.heap[C]? = w2.heap[C]? := D2.out.block C (Array.getElem?_eq_some_iff.1 H1.out.hd).1 (fun e => HM.out.1 (by injection e with e; exact e.symm))
  have hE : ∀ x ∈ A, w3.heap[x.1]? = w2.heap[x.1]? := fun x hx => by
    obtain ⟨p', n', hb⟩ := seg_mem _ _ _ H1.out.sg x hx
    exact D2.out.block x.1 (Array.getElem?_eq_some_iff.1 hb).1 (fun e => HM.out.2 x (by simp [hx]) (by injection e))
  have hn := nk_mid HL.out.nk
  have kk : KeptB (own C m (A ++ [(g, k, v)])) w1 w3 := ((H3.out.kept (m := m)).drew).grown D2.out (fun k e => Or.inl (by cases e; exact Or.inr (Or.inl rfl)))
  refine ⟨_, rfl, ⟨⟨hC.trans H1.out.hd, seg_frame _ _ _ H1.out.sg hE, H1.out.nd⟩, ?_, by simpa using hn.2, fun x hx => HL.out.kr x (by simp [hx])⟩, ⟨gv', GS.keep HC1.out HG1.out kk, HW1.out⟩, (KeptB.ofdrew (KeptB.trans (S := ow C m (A ++ [(g, k, v)]) b8 gv) ⟨HK1.out.os, HK1.out.tape, HK1.out.output, HK1.out.size, fun b hb hn => HK1.out.blk b hb (fun h => hn (Or.inr h))⟩ kk (fun b _ h => Or.inl h)))⟩
  have e : (fun n => if n = k then none else lookE (A ++ [(g, k, v)]) n) = lookE A := by
    funext n
    rw [lookE_mid A [] g k v (fun x hx => hn.1 x (by simp [hx])), List.append_nil]
    by_cases h : n = k
    · subst h; rw [if_pos rfl, lookE_none (fun x hx => hn.1 x (by simp [hx]))]
    · simp only [if_neg h]
  have := D1.out
  rw [e] at this
  simpa using this
end Go.Proofs.Ytphnnbbgcnilgaa.CacG
