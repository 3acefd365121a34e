/-
  Proved: the states of a round of a script with a callback. Conditions: each theorem's own.
-/
import Derived.Test.YtphnnbbgcnilgaaCacY
namespace Go.Proofs.Ytphnnbbgcnilgaa.CacZ
open Go Go.RowKit Go.Proofs.YtphnnbbgcnilgaaW.PrintWords Go.Proofs.Ytphnnbbgcnilgaa.Common Go.Proofs.Ytphnnbbgcnilgaa.IMapN Go.Proofs.Ytphnnbbgcnilgaa.CacA Go.Proofs.Ytphnnbbgcnilgaa.CacS Go.Proofs.Ytphnnbbgcnilgaa.CacT Go.Proofs.Ytphnnbbgcnilgaa.CacU Go.Proofs.Ytphnnbbgcnilgaa.CacV Go.Proofs.Ytphnnbbgcnilgaa.CacW Go.Proofs.Ytphnnbbgcnilgaa.CacG Go.Proofs.Ytphnnbbgcnilgaa.CacH Go.Proofs.Ytphnnbbgcnilgaa.CacJ Go.Proofs.Ytphnnbbgcnilgaa.CacK Go.Proofs.Ytphnnbbgcnilgaa.CacY Go.Proofs.Ytphnnbbgcnilgaa.GFnCachePurge
set_option linter.unusedVariables false
set_option linter.unusedSimpArgs false
set_option maxRecDepth 1000000
abbrev Z42 : Array Value := #[.bool false, .int .i64 0, .int .i64 0, .float .f64 0, .bool false, .slice none 0 0]
structure RE (w0 : World) (C b8 : Nat) (n : Int) (st : St) (outs : List S42) (v : Value) (m : Nat) (l : List E) (W : World) : Prop where
  cs : CS (evF b8) C n m st.hits st.miss l W
  kl : kvs l = st.l
  gone : ∃ gv, W.heap[b8]? = some (.cells #[gv] 40 (0, 0))
  row : k42.R 42 W w0.heap.size (fun _ => True) v outs
  bel : Below w0.heap.size w0 W
  lo : ∀ b, own C m l b → w0.heap.size ≤ b
  lb : w0.heap.size ≤ b8
structure IE (wr : World) (C b8 gx go : Nat) (n : Int) (hits miss : Int) (m0 : Nat) (l0 : List E) (m : Nat) (l : List E) (x : S33) (oc : Array Value) (gv : Value) (G : List KV) (W : World) : Prop where
  cs : CS (evF b8) C n m hits miss l W
  hx : W.heap[gx]? = some (.cells #[.int .i64 x.f0, .int .i64 x.f1, .int .i64 x.f2] 33 (0, 0))
  ho : W.heap[go]? = some (.cells oc 42 (0, 0))
  gs : GS b8 wr.heap.size gv G W
  kp : KeptB (fun b => b = b8 ∨ own C m0 l0 b) wr W
  lgo : wr.heap.size ≤ go
  lgx : wr.heap.size ≤ gx
  sub : ∀ b, ow C m l b8 gv b → (b = b8 ∨ own C m0 l0 b) ∨ wr.heap.size ≤ b
theorem lt_of {W : World} {g t : Nat} {T : Array Value} (h : W.heap[g]? = some (.cells T t (0, 0))) : g < W.heap.size := (Array.getElem?_eq_some_iff.1 h).1
/-- a call has kept all but these -/
theorem gsrow_far {b8 B : Nat} {gv : Value} {G : List KV} {W W1 : World} (h : GS b8 B gv G W) (hf : ∀ (b : Nat) (T : Array Value), W.heap[b]? = some (.cells T 64 (0, 0)) → W1.heap[b]? = W.heap[b]?) (h8 : W1.heap[b8]? = W.heap[b8]?) (hs : W.heap.size ≤ W1.heap.size) : GS b8 B gv G W1 := by
  refine ⟨h8.trans h.hb, ?_, Nat.le_trans h.le hs⟩
  refine Kd.R_mono (Kd.R_step (Kd.R_bound h.row) (fun b hb hlt => ?_)) (fun _ _ => trivial)
  obtain ⟨_, _, _, q, hq, cells, hc⟩ := hb
  have : q = 64 := by simpa using (show q ∈ [64] from hq)
  subst this
  exact hf b cells hc
theorem IE.put {wr : World} {C b8 gx go : Nat} {n hits miss : Int} {m0 m : Nat} {l0 l : List E} {x : S33} {oc : Array Value} {gv : Value} {G : List KV} {W : World} (h : IE wr C b8 gx go n hits miss m0 l0 m l x oc gv G W) (j : Nat) (u : Value) :
    IE wr C b8 gx go n hits miss m0 l0 m l x (oc.setIfInBounds j u) gv G (W.setCell ⟨go, j, none⟩ u) := by
  have ho : ∀ b, own C m l b → b ≠ go := fun b hb e => own_typ h.cs h.ho (by decide) (by decide) (by rw [← e]; exact hb)
  exact ⟨CS.frame h.cs (fun b hb => set_far _ _ _ _ _ (ho b hb)), (set_far _ _ _ _ _ (typ_ne h.hx h.ho (by decide))).trans h.hx, set_blk _ _ _ _ _ _ h.ho, gsrow_far h.gs (fun b T hb => set_far _ _ _ _ _ (typ_ne hb h.ho (by decide))) (set_far _ _ _ _ _ (typ_ne h.gs.hb h.ho (by decide))) (by rw [World.size_setCell]; exact Nat.le_refl _), h.kp.set (Or.inr h.lgo) _, h.lgo, h.lgx, h.sub⟩
theorem ow_ne {ev : Value} {C m b8 : Nat} {n hits miss : Int} {l : List E} {W : World} (h : CS ev C n m hits miss l W) {g8 : Value} (h8 : W.heap[b8]? = some (.cells #[g8] 40 (0, 0))) {g t : Nat} {T : Array Value} (hg : W.heap[g]? = some (.cells T t (0, 0))) (h1 : t ≠ 94) (h2 : t ≠ 97) (h3 : t ≠ 40) : ¬ ow C m l b8 nilS g := by
  rintro (ho | ho | ho)
  · exact own_typ h hg h1 h2 ho
  · exact typ_ne hg h8 h3 ho
  · simp [nilS, Value.ownBlock] at ho
theorem IE.post {wr : World} {C b8 gx go : Nat} {n hits miss : Int} {m : Nat} {l : List E} {x : S33} {oc : Array Value} {W w' : World} {st' : St} {G : List KV} (h : IE wr C b8 gx go n hits miss m l m l x oc nilS [] W) (p : Post C n m b8 wr.heap.size l W st' G w') :
    ∃ m' l' gv', IE wr C b8 gx go n st'.hits st'.miss m l m' l' x oc gv' G w' ∧ kvs l' = st'.l := by
  obtain ⟨⟨m', l', gv', c1, c2, c3, c4⟩, k⟩ := p
  have sub0 : ∀ b, ow C m l b8 nilS b → (b = b8 ∨ own C m l b) := by
    rintro b (ho | ho | ho)
    · exact Or.inr ho
    · exact Or.inl ho
    · simp [nilS, Value.ownBlock] at ho
  refine ⟨m', l', gv', ⟨c1, (k.blk _ (lt_of h.hx) (ow_ne h.cs h.gs.hb h.hx (by decide) (by decide) (by decide))).trans h.hx, (k.blk _ (lt_of h.ho) (ow_ne h.cs h.gs.hb h.ho (by decide) (by decide) (by decide))).trans h.ho, c3, h.kp.trans k (fun b _ hb => sub0 b hb), h.lgo, h.lgx, fun b hb => ?_⟩, c2⟩
  rcases c4 b hb with h1 | h1
  · exact Or.inl (sub0 b h1)
  · exact Or.inr (Nat.le_trans h.kp.size h1)
/-- behind the script's function's call -/
theorem IE.comp {wr : World} {C b8 gx go : Nat} {n hits miss : Int} {m : Nat} {l : List E} {x : S33} {oc : Array Value} {W : World} (h : IE wr C b8 gx go n hits miss m l m l x oc nilS [] W) :
    IE wr C b8 gx go n hits (miss + 1) m l m l x (oc.setIfInBounds 4 (.bool true)) nilS [] ((W.setCell ⟨C, 6, none⟩ (.int .i64 (miss + 1))).setCell ⟨go, 4, none⟩ (.bool true)) := by
  have hC : ∀ (t : Nat) (T : Array Value) (b : Nat), W.heap[b]? = some (.cells T t (0, 0)) → t ≠ 94 → b ≠ C := fun t T b hb ht => typ_ne hb h.cs.dl.hd ht
  have h1 : IE wr C b8 gx go n hits (miss + 1) m l m l x oc nilS [] (W.setCell ⟨C, 6, none⟩ (.int .i64 (miss + 1))) :=
    ⟨CS.miss h.cs (miss + 1), (set_far _ _ _ _ _ (hC _ _ _ h.hx (by decide))).trans h.hx, (set_far _ _ _ _ _ (hC _ _ _ h.ho (by decide))).trans h.ho, gsrow_far h.gs (fun b T hb => set_far _ _ _ _ _ (hC _ _ _ hb (by decide))) (set_far _ _ _ _ _ (hC _ _ _ h.gs.hb (by decide))) (by rw [World.size_setCell]; exact Nat.le_refl _), h.kp.set (Or.inl (Or.inr (Or.inl rfl))) _, h.lgo, h.lgx, h.sub⟩
  exact h1.put 4 (.bool true)
theorem IE.facts {wr : World} {C b8 gx go : Nat} {n hits miss : Int} {m0 m : Nat} {l0 l : List E} {x : S33} {oc : Array Value} {gv : Value} {G : List KV} {W : World} (h : IE wr C b8 gx go n hits miss m0 l0 m l x oc gv G W) :
    (W.cell? ⟨gx, 0, none⟩ = some (.int .i64 x.f0) ∧ W.cell? ⟨gx, 1, none⟩ = some (.int .i64 x.f1) ∧ W.cell? ⟨gx, 2, none⟩ = some (.int .i64 x.f2) ∧ W.cell? ⟨b8, 0, none⟩ = some gv) ∧ ∀ i, W.frozen? ⟨go, i, none⟩ = false :=
  ⟨⟨(blk_cell h.hx 0).trans rfl, (blk_cell h.hx 1).trans rfl, (blk_cell h.hx 2).trans rfl, (blk_cell h.gs.hb 0).trans rfl⟩, fun i => blk_frozen h.ho i⟩
/-- what the round's first box leaves of the callback's -/
theorem ready2 {w0 : World} {C b8 gx : Nat} {n : Int} {st : St} {outs : List S42} {v : Value} {m : Nat} {l : List E} {wr W1 W2 : World} {cs : Array Value} (h : RE w0 C b8 n st outs v m l wr)
    (hgx : gx = wr.heap.size) (b1 : Below wr.heap.size wr W1) (e2 : W2 = W1.setRow gx cs) : W2.frozen? ⟨b8, 0, none⟩ = false ∧ ∃ gv, W2.heap[b8]? = some (.cells #[gv] 40 (0, 0)) ∧ W2.cell? ⟨b8, 0, none⟩ = some gv := by
  obtain ⟨gv, hg⟩ := h.gone
  have hlt := lt_of hg
  have hn : b8 ≠ gx := by omega
  have : W2.heap[b8]? = some (.cells #[gv] 40 (0, 0)) := by
    rw [e2, setRow_other _ _ _ _ hn]
    exact (b1.block b8 hlt).trans hg
  exact ⟨blk_frozen this 0, gv, this, (blk_cell this 0).trans rfl⟩
theorem ready {w0 : World} {C b8 gx go : Nat} {n : Int} {st : St} {outs : List S42} {v : Value} {m : Nat} {l : List E} {wr W1 W2 W3 W4 W5 : World} {x : S33} (h : RE w0 C b8 n st outs v m l wr)
    (hgx : gx = wr.heap.size) (h1 : W1.heap[gx]? = some (.cells #[.int .i64 0, .int .i64 0, .int .i64 0] 33 (0, 0))) (b1 : Below wr.heap.size wr W1)
    (e2 : W2 = W1.setRow gx #[.int .i64 x.f0, .int .i64 x.f1, .int .i64 x.f2])
    (e3 : W3 = W2.setCell ⟨b8, 0, none⟩ (.slice none 0 0))
    (hgo : go = W3.heap.size) (h4 : W4.heap[go]? = some (.cells Z42 42 (0, 0))) (b4 : Below W3.heap.size W3 W4)
    (e5 : W5 = W4.setRow go Z42) :
    IE wr C b8 gx go n st.hits st.miss m l m l x Z42 nilS [] W5 := by
  obtain ⟨g8, hgone⟩ := h.gone
  have olt := CS.lt h.cs
  have k1 : KeptB (fun b => b = b8 ∨ own C m l b) wr W1 := ⟨b1.os, b1.tape, b1.output, b1.size, fun b hb _ => b1.block b hb⟩
  have k2 : KeptB (fun b => b = b8 ∨ own C m l b) wr W2 := by
    rw [e2]
    exact KeptB.setRow k1 (Or.inr (Nat.le_of_eq hgx.symm)) _
  have o2 : ∀ b, b < wr.heap.size → W2.heap[b]? = wr.heap[b]? := fun b hb => by
    have hn : b ≠ gx := by omega
    rw [e2, setRow_other _ _ _ _ hn]
    exact b1.block b hb
  have x2 : W2.heap[gx]? = some (.cells #[.int .i64 x.f0, .int .i64 x.f1, .int .i64 x.f2] 33 (0, 0)) := by
    rw [e2]
    exact setRow_heap _ _ _ _ _ _ h1
  have g2 := (o2 b8 (lt_of hgone)).trans hgone
  have g3 : W3.heap[b8]? = some (.cells #[nilS] 40 (0, 0)) := by rw [e3]; exact (set_blk _ _ _ _ _ _ g2).trans rfl
  have x3 : W3.heap[gx]? = some (.cells #[.int .i64 x.f0, .int .i64 x.f1, .int .i64 x.f2] 33 (0, 0)) := by rw [e3, set_far _ _ _ _ _ (typ_ne x2 g2 (by decide))]; exact x2
  have hnb : ∀ b, own C m l b → b ≠ b8 := fun b hb e => own_typ h.cs hgone (by decide) (by decide) (by rw [← e]; exact hb)
  have c3 : CS (evF b8) C n m st.hits st.miss l W3 := CS.frame h.cs (fun b hb => by
    rw [e3, set_far _ _ _ _ _ (hnb b hb)]
    exact o2 b (olt b hb))
  have k3 : KeptB (fun b => b = b8 ∨ own C m l b) wr W3 := by rw [e3]; exact k2.set (Or.inl (Or.inl rfl)) _
  have k4 : KeptB (fun b => b = b8 ∨ own C m l b) wr W4 := ⟨b4.os.trans k3.os, b4.tape.trans k3.tape, b4.output.trans k3.output, Nat.le_trans k3.size b4.size, fun b hb hn => (b4.block b (Nat.lt_of_lt_of_le hb k3.size)).trans (k3.blk b hb hn)⟩
  have c4 : CS (evF b8) C n m st.hits st.miss l W4 := CS.frame c3 (fun b hb => b4.block b (CS.lt c3 b hb))
  have lg : wr.heap.size ≤ go := by rw [hgo]; exact k3.size
  have hne : ∀ b, own C m l b → b ≠ go := fun b hb e => own_typ c4 h4 (by decide) (by decide) (by rw [← e]; exact hb)
  have g4 := (b4.block b8 (lt_of g3)).trans g3
  have x4 := (b4.block gx (lt_of x3)).trans x3
  rw [e5]
  refine ⟨CS.frame c4 (fun b hb => setRow_other _ _ _ _ (hne b hb)), (setRow_other _ _ _ _ (typ_ne x4 h4 (by decide))).trans x4, setRow_heap _ _ _ _ _ _ h4, ⟨(setRow_other _ _ _ _ (typ_ne g4 h4 (by decide))).trans g4, Kd.R_nil _ _ _ _ _, ?_⟩, KeptB.setRow k4 (Or.inr lg) _, lg, Nat.le_of_eq hgx.symm, ?_⟩
  · rw [setRow_size]; exact k4.size
  · rintro b (ho | ho | ho)
    · exact Or.inl (Or.inr ho)
    · exact Or.inl (Or.inl ho)
    · simp [nilS, Value.ownBlock] at ho
theorem bel_kept {w0 : World} {C b8 gx go : Nat} {n : Int} {st : St} {outs : List S42} {v : Value} {m m' : Nat} {l l' : List E} {wr W : World} {x : S33} {oc : Array Value} {hits miss : Int} {gv : Value} {G : List KV} (h : RE w0 C b8 n st outs v m l wr) (k : IE wr C b8 gx go n hits miss m l m' l' x oc gv G W) : Below w0.heap.size w0 W :=
  k.kp.below h.bel h.bel.size (fun b hb ho => by
    rcases ho with rfl | ho
    · have := h.lb; omega
    · have := h.lo b ho; omega)
theorem row_kept {w0 : World} {C b8 gx go : Nat} {n : Int} {st : St} {outs : List S42} {v : Value} {m m' : Nat} {l l' : List E} {wr W : World} {x : S33} {oc : Array Value} {hits miss : Int} {gv : Value} {G : List KV} (h : RE w0 C b8 n st outs v m l wr) (k : IE wr C b8 gx go n hits miss m l m' l' x oc gv G W) : k42.R 42 W w0.heap.size (fun _ => True) v outs := by
  obtain ⟨g8, hgone⟩ := h.gone
  exact Kd.R_mono (Kd.R_step (Kd.R_bound h.row) (fun b hb hlt => k.kp.blk b hlt (fun ho => by
    obtain ⟨_, _, _, q, hq, cells, hc⟩ := hb
    have hq2 : q = 42 ∨ q = 64 := by
      have : q ∈ [42, 64] := hq
      simpa using this
    rcases ho with rfl | ho
    · exact typ_ne hc hgone (by rcases hq2 with rfl | rfl <;> decide) rfl
    · exact own_typ h.cs hc (by rcases hq2 with rfl | rfl <;> decide) (by rcases hq2 with rfl | rfl <;> decide) ho))) (fun _ _ => trivial)
/-- what is gone, beside the row of what was told -/
theorem gone_M {w0 : World} {C b8 gx go : Nat} {n : Int} {st : St} {outs : List S42} {v : Value} {m m' : Nat} {l l' : List E} {wr W : World} {x : S33} {oc : Array Value} {hits miss : Int} {gv : Value} {G : List KV} (h : RE w0 C b8 n st outs v m l wr) (k : IE wr C b8 gx go n hits miss m l m' l' x oc gv G W) : kpair.R 64 W w0.heap.size (fun b => ∃ T : Array Value, W.heap[b]? = some (.cells T 64 (0, 0))) gv G := by
  refine Kd.R_lower (Kd.R_mono (Kd.R_bound k.gs.row) (fun b hb => ?_)) h.bel.size
  obtain ⟨_, _, _, q, hq, cells, hc⟩ := hb
  have : q = 64 := by simpa using (show q ∈ [64] from hq)
  subst this
  exact ⟨cells, hc⟩
theorem okp_ne {w0 : World} {C b8 gx go : Nat} {n : Int} {st : St} {outs : List S42} {v : Value} {m m' : Nat} {l l' : List E} {wr W : World} {x : S33} {oc : Array Value} {hits miss : Int} {gv : Value} {G : List KV} (h : RE w0 C b8 n st outs v m l wr) (k : IE wr C b8 gx go n hits miss m l m' l' x oc gv G W) : ∀ b, (∃ T : Array Value, W.heap[b]? = some (.cells T 64 (0, 0))) → True ∧ some b ≠ v.ownBlock := by
  rintro b ⟨T, hT⟩
  exact ⟨trivial, Kd.R_ne (row_kept h k) hT (by decide)⟩
theorem closed {w0 : World} {C b8 gx go : Nat} {n : Int} {st st' : St} {outs : List S42} {p : S42} {v v2 : Value} {m m' : Nat} {l l' : List E} {wr W w2 : World} {x : S33} {oc : Array Value} {gv : Value} {G : List KV} (h : RE w0 C b8 n st outs v m l wr) (k : IE wr C b8 gx go n st'.hits st'.miss m l m' l' x oc gv G W)
    (hl : kvs l' = st'.l) (hr : k42.R 42 w2 w0.heap.size (fun _ => True) v2 (outs ++ [p])) (hb : Below w0.heap.size w0 w2) (hg : W.grownBy w2 v.ownBlock) : RE w0 C b8 n st' (outs ++ [p]) v2 m' l' w2 := by
  have row := row_kept h k
  have hv : ∀ b, own C m' l' b → some b ≠ v.ownBlock := by
    intro b hb e
    obtain ⟨inner, ho, _⟩ := row.2
    obtain ⟨cells, hc⟩ := own_typed ho b e.symm
    exact own_typ k.cs hc (by decide) (by decide) hb
  refine ⟨CS.frame k.cs (fun b hb => hg.block b (CS.lt k.cs b hb) (hv b hb)), hl, ⟨gv, (hg.block b8 (lt_of k.gs.hb) (Kd.R_ne row k.gs.hb (by decide))).trans k.gs.hb⟩, hr, hb, fun b hb => ?_, h.lb⟩
  rcases k.sub b (Or.inl hb) with (h1 | h1) | h1
  · rw [h1]; exact h.lb
  · exact h.lo b h1
  · exact Nat.le_trans h.bel.size h1
set_option maxHeartbeats 1000000 in
theorem evict_f {n : Int} {b8 : Nat} {w : World} (h0 : 0 < n) (h1 : n ≤ 100000) :
    Calls Try.prog 27 #[.int .i64 n, .func (.func 28) #[] #[.pointer (some ⟨b8, 0, none⟩)]] w fun e w' => ∃ C m, e = .returned (.pointer (some ⟨C, 0, none⟩)) ∧ w.heap.size ≤ C ∧ w.heap.size ≤ m ∧ CS (evF b8) C n m 0 0 [] w' ∧ Below w.heap.size w w' := by
  have d1 : decide (n ≤ 0) = false := decide_eq_false (by omega)
  have d2 : decide (n > 100000) = false := decide_eq_false (by omega)
  have hmk := run_mk n w
  go_enter Try.func27, Try.ntmps27
  go_wp2
  go_ret
  exact ⟨_, _, rfl, Nat.le_succ _, Nat.le_refl _, cs_made (evF b8) n w, ((Below.refl _ _).alloc (Nat.le_refl _) _).alloc (by simp) _⟩
end Go.Proofs.Ytphnnbbgcnilgaa.CacZ
