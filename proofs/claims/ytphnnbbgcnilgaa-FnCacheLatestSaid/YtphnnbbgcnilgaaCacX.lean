/-
  Proved: a script of Add and Get run over a cache without a callback gives what the plain functions give. Conditions: a size of 1 to 40, at most 1000 calls, keys that are ints.
-/
import Derived.Test.YtphnnbbgcnilgaaCacW
namespace Go.Proofs.Ytphnnbbgcnilgaa.CacX
open Go Go.RowKit Go.Proofs.YtphnnbbgcnilgaaW.PrintWords Go.Proofs.Ytphnnbbgcnilgaa.Common Go.Proofs.Ytphnnbbgcnilgaa.IMapN Go.Proofs.Ytphnnbbgcnilgaa.CacA Go.Proofs.Ytphnnbbgcnilgaa.CacS Go.Proofs.Ytphnnbbgcnilgaa.CacT Go.Proofs.Ytphnnbbgcnilgaa.CacU Go.Proofs.Ytphnnbbgcnilgaa.CacV Go.Proofs.Ytphnnbbgcnilgaa.CacW Go.Proofs.Ytphnnbbgcnilgaa.GFnCachePurge
set_option linter.unusedVariables false
set_option linter.unusedSimpArgs false
set_option maxRecDepth 1000000
theorem ready2 {w0 : World} {C m b8 gx : Nat} {n : Int} {st : St} {outs : List S42} {v : Value} {l : List E} {wr W1 W2 : World} {x : S33} (h : RS w0 C m b8 n st outs v l wr)
    (hgx : gx = wr.heap.size) (h1 : W1.heap[gx]? = some (.cells #[.int .i64 0, .int .i64 0, .int .i64 0] 33 (0, 0))) (b1 : Below wr.heap.size wr W1)
    (e2 : W2 = W1.setRow gx #[.int .i64 x.f0, .int .i64 x.f1, .int .i64 x.f2]) : W2.frozen? ⟨b8, 0, none⟩ = false := by
  have hlt := (Array.getElem?_eq_some_iff.1 h.gone).1
  have hn : b8 ≠ gx := by omega
  have : W2.heap[b8]? = some (.cells #[.slice none 0 0] 40 (0, 0)) := by
    rw [e2, setRow_other _ _ _ _ hn]
    exact (b1.block b8 hlt).trans h.gone
  exact blk_frozen this 0
theorem ready3 {w0 : World} {C m b8 gx : Nat} {n : Int} {st : St} {outs : List S42} {v : Value} {l : List E} {wr W1 W2 : World} {x : S33} (h : RS w0 C m b8 n st outs v l wr)
    (hgx : gx = wr.heap.size) (h1 : W1.heap[gx]? = some (.cells #[.int .i64 0, .int .i64 0, .int .i64 0] 33 (0, 0))) (b1 : Below wr.heap.size wr W1)
    (e2 : W2 = W1.setRow gx #[.int .i64 x.f0, .int .i64 x.f1, .int .i64 x.f2]) : W2.cell? ⟨b8, 0, none⟩ = some (.slice none 0 0) := by
  have hlt := (Array.getElem?_eq_some_iff.1 h.gone).1
  have hn : b8 ≠ gx := by omega
  have : W2.heap[b8]? = some (.cells #[.slice none 0 0] 40 (0, 0)) := by
    rw [e2, setRow_other _ _ _ _ hn]
    exact (b1.block b8 hlt).trans h.gone
  exact (blk_cell this 0).trans rfl
theorem bel_kept {w0 : World} {C m b8 gx go : Nat} {n : Int} {st : St} {outs : List S42} {v : Value} {l l' : List E} {wr W : World} {x : S33} {oc : Array Value} {hits miss : Int} (h : RS w0 C m b8 n st outs v l wr) (k : IR wr C m b8 gx go n hits miss l l' x oc W) : Below w0.heap.size w0 W :=
  k.kp.below h.bel h.bel.size (fun b hb ho => by
    rcases ho with rfl | ho
    · have := h.lb; omega
    · have := h.lo b ho; omega)
theorem row_kept {w0 : World} {C m b8 gx go : Nat} {n : Int} {st : St} {outs : List S42} {v : Value} {l l' : List E} {wr W : World} {x : S33} {oc : Array Value} {hits miss : Int} (h : RS w0 C m b8 n st outs v l wr) (k : IR wr C m b8 gx go n hits miss l l' x oc W) : k42.R 42 W w0.heap.size (fun _ => True) v outs :=
  Kd.R_mono (Kd.R_step (Kd.R_bound h.row) (fun b hb hlt => k.kp.blk b hlt (fun ho => by
    obtain ⟨_, _, _, q, hq, cells, hc⟩ := hb
    have hq2 : q = 42 ∨ q = 64 := by
      have : q ∈ [42, 64] := hq
      simpa using this
    rcases ho with rfl | ho
    · exact typ_ne hc h.gone (by rcases hq2 with rfl | rfl <;> decide) rfl
    · exact own_typ h.cs hc (by rcases hq2 with rfl | rfl <;> decide) (by rcases hq2 with rfl | rfl <;> decide) ho))) (fun _ _ => trivial)
theorem closed {w0 : World} {C m b8 gx go : Nat} {n : Int} {st st' : St} {outs : List S42} {p : S42} {v v2 : Value} {l l' : List E} {wr W w2 : World} {x : S33} {oc : Array Value} (h : RS w0 C m b8 n st outs v l wr) (k : IR wr C m b8 gx go n st'.hits st'.miss l l' x oc W)
    (hl : kvs l' = st'.l) (hr : k42.R 42 w2 w0.heap.size (fun _ => True) v2 (outs ++ [p])) (hb : Below w0.heap.size w0 w2) (hg : W.grownBy w2 v.ownBlock) : RS w0 C m b8 n st' (outs ++ [p]) v2 l' w2 := by
  have row := row_kept h k
  have hv : ∀ b, own C m l' b → some b ≠ v.ownBlock := by
    intro b hb e
    obtain ⟨inner, ho, _⟩ := row.2
    obtain ⟨cells, hc⟩ := own_typed ho b e.symm
    exact own_typ k.cs hc (by decide) (by decide) hb
  refine ⟨CS.frame k.cs (fun b hb => hg.block b (CS.lt k.cs b hb) (hv b hb)), hl, (hg.block b8 (Array.getElem?_eq_some_iff.1 k.hg).1 (Kd.R_ne row k.hg (by decide))).trans k.hg, hr, hb, fun b hb => ?_, h.lb⟩
  rcases k.sub b hb with h1 | h1
  · exact h.lo b h1
  · exact Nat.le_trans h.bel.size h1
theorem bnd (n : Int) : ∀ (l : List S33) (s : St), 0 ≤ s.hits → 0 ≤ s.miss → 0 ≤ (after n s l).hits ∧ (after n s l).hits ≤ s.hits + l.length ∧ 0 ≤ (after n s l).miss ∧ (after n s l).miss ≤ s.miss + l.length
  | [], s, h0, h1 => by simp [after, h0, h1]
  | o :: t, s, h0, h1 => by
    have hs : s.hits ≤ (stepC n s o).1.hits ∧ (stepC n s o).1.hits ≤ s.hits + 1 ∧ s.miss ≤ (stepC n s o).1.miss ∧ (stepC n s o).1.miss ≤ s.miss + 1 := by
      unfold stepC
      by_cases h : o.f0 = 0
      · rw [if_pos h]; dsimp only; omega
      · rw [if_neg h]; dsimp only; split <;> omega
    have := bnd n t (stepC n s o).1 (by omega) (by omega)
    rw [after, List.length_cons]
    omega
theorem rd33 (l : List S33) (q : Nat) (h : q < l.length) : rd_T33 l (q : Int) = l[q] := by
  unfold rd_T33
  rw [Int.toNat_natCast, List.getD_eq_getElem?_getD, List.getElem?_eq_getElem h]; rfl
theorem runs_at (n : Int) (s : St) (l : List S33) (q : Nat) (h : q < l.length) : runs n s (l.take (q + 1)) = runs n s (l.take q) ++ [(stepC n (after n s (l.take q)) l[q]).2] ∧ after n s (l.take (q + 1)) = (stepC n (after n s (l.take q)) l[q]).1 := by
  rw [List.take_succ_eq_append_getElem h]
  exact runs_snoc n _ s _
theorem start {w w1 w2 : World} {C m : Nat} {n : Int} {v : Value} (h1 : (w.alloc (.cells #[.slice none 0 0] 40 (0, 0))).heap.size ≤ C) (h2 : (w.alloc (.cells #[.slice none 0 0] 40 (0, 0))).heap.size ≤ m) (h3 : CS .nilFunc C n m 0 0 [] w1)
    (h4 : Below (w.alloc (.cells #[.slice none 0 0] 40 (0, 0))).heap.size (w.alloc (.cells #[.slice none 0 0] 40 (0, 0))) w1) (hr : k42.R 42 w2 w.heap.size (fun _ => True) v []) (hb : Below w.heap.size w w2) (hg : w1.grownBy w2 none) : RS w C m w.heap.size n ⟨[], 0, 0⟩ [] v [] w2 := by
  rw [World.size_alloc] at h1 h2
  have g0 := (h4.block w.heap.size (by simp)).trans (MapKept.heap_alloc w (.cells #[.slice none 0 0] 40 (0, 0))).1
  refine ⟨CS.frame h3 (fun b hb => hg.block b (CS.lt h3 b hb) (by simp)), rfl, (hg.block _ (Array.getElem?_eq_some_iff.1 g0).1 (by simp)).trans g0, hr, hb, fun b ho => ?_, Nat.le_refl _⟩
  rcases ho with rfl | rfl | ⟨x, hx, _⟩
  · omega
  · omega
  · cases hx
set_option maxHeartbeats 8000000 in
theorem run_c {n : Int} (hn0 : 0 < n) (hn1 : n ≤ 40) (ops : List S33) (ho : ∀ x ∈ ops, (x.f0 = 0 ∨ x.f0 = 1) ∧ (Lit.int .i64 x.f1).wf = true) (hl : ops.length ≤ 1000) (A : Option Addr) (c : Nat) (w : World) (hr : Kd.C k33 w A ops.length ops) :
    Calls Try.prog 13 #[.int .i64 n, .bool false, .slice A ops.length c] w fun e w' => ∃ v, e = .returned (.tuple #[v, .bool true]) ∧ k42.R 42 w' w.heap.size (fun _ => True) v (runs n ⟨[], 0, 0⟩ ops) ∧ Below w.heap.size w w' := by
  have HC : ∀ q : Nat, q < ops.length → Aside0 (∃ ad, A = some ad ∧ w.cell? (ad.add (q * 3)) = some (.int .i64 (rd_T33 ops (q : Int)).f0) ∧ w.cell? ⟨(ad.add (q * 3)).block, (ad.add (q * 3)).off + 1, none⟩ = some (.int .i64 (rd_T33 ops (q : Int)).f1) ∧ w.cell? ⟨(ad.add (q * 3)).block, (ad.add (q * 3)).off + 2, none⟩ = some (.int .i64 (rd_T33 ops (q : Int)).f2)) := fun q hq => by
    obtain ⟨ad, e, h0, h1, h2⟩ := at_T33 hr (q : Int) (by omega) (by omega)
    rw [Int.toNat_natCast] at h0 h1 h2
    exact Aside0.mk ⟨ad, e, h0, h1, h2⟩
  have HN := Aside0.mk (And.intro hn0 (show n ≤ 100000 by omega))
  have HOP := Aside0.mk ho
  clear hr hn0 hn1 ho
  have hsf : ∀ (W : World) (a : Addr) (f : Nat), (store a (.float .f64 f)).run Try.prog W = stored Try.prog W a (.float .f64 f) .plain := fun W a f => run_store Try.prog W a _ _ rfl
  go_enter Try.func13, Try.ntmps13
  go_wp2_with (first
    | (go_at_call 26; refine (new_c HN.out.1 HN.out.2).mono ?_; rintro e w1 ⟨C, m, rfl, h1, h2, h3, h4⟩; have H1 := Aside0.mk h1; have H2 := Aside0.mk h2; have H3 := Aside0.mk h3; have H4 := Aside0.mk h4; clear h1 h2 h3 h4)
    | ((with_reducible refine gate_dst (N := 22) rfl ?_); refine Kd.R_lit (w0 := w) k42 w.heap.size 42 ?hg (N := 22) ?hd (xs := ([] : List S42)) (inner := []) (ok := fun _ => True) (okp := fun _ => True) ?hr ?hp (fun _ hk => hk) trivial (((below_alloc (Below.refl _ _) _).trans (H4.out.mono (by simp)))) (Nat.le_trans (by simp) H4.out.size) (by simp) ?_; (case hd => rfl); (case hg => rfl); (case hr => first | (go_simp; done) | (go_simp; rfl)); (case hp => exact Reps.none _ _); intro v2 w2 ho2 hb2 hg2 hnew_; clear hnew_; have HS := Aside0.mk (start H1.out H2.out H3.out H4.out ho2 hb2 hg2); clear ho2 hb2 hg2))
  clear H1 H2 H3 H4
  go_loopw [10, 25] (fun v i wr => ∃ (q : Nat) (l : List E), Value.int .i64 (q : Int) = i ∧ q ≤ ops.length ∧ Aside0 (RS w C m w.heap.size n (after n ⟨[], 0, 0⟩ (ops.take q)) (runs n ⟨[], 0, 0⟩ (ops.take q)) v l wr)) (fun _ i _ => ops.length - (intOf i).toNat)
  case atStart => exact ⟨0, [], rfl, by omega, HS⟩
  case round =>
    obtain ⟨q, l, rfl, hq, HRS⟩ := hrel
    clear HS
    by_cases hlt : q < ops.length
    · obtain ⟨ad, rfl, hx0, hx1, hx2⟩ := (HC q hlt).out
      replace hx0 := (HRS.out.bel.cell (World.block_lt_of_cell? w _ hx0)).trans hx0
      replace hx1 := (HRS.out.bel.cell (World.block_lt_of_cell? w _ hx1)).trans hx1
      replace hx2 := (HRS.out.bel.cell (World.block_lt_of_cell? w _ hx2)).trans hx2
      obtain ⟨r1, r2⟩ := runs_at n ⟨[], 0, 0⟩ ops q hlt
      obtain ⟨o1, o2⟩ := HOP.out ops[q] (List.getElem_mem _)
      obtain ⟨b1, b2, b3, b4⟩ := bnd n (ops.take q) ⟨[], 0, 0⟩ (Int.le_refl _) (Int.le_refl _)
      have hlo : (runs n ⟨[], 0, 0⟩ (ops.take q)).length ≤ 1000 := by rw [runs_len, List.length_take]; omega
      have htl : ((ops.take q).length : Int) ≤ 1000 := by rw [List.length_take]; omega
      rw [rd33 ops q hlt] at hx0 hx1 hx2
      have R1 := Aside0.mk r1
      have R2 := Aside0.mk r2
      clear r1 r2
      generalize after n ⟨[], 0, 0⟩ (ops.take q) = st at *
      generalize runs n ⟨[], 0, 0⟩ (ops.take q) = outs at *
      generalize ops[q] = x at *
      obtain ⟨d, k, u⟩ := x
      dsimp only at hx0 hx1 hx2 o1 o2 b2 b4
      have HW := Aside0.mk o2
      have HB4 : Aside0 (0 ≤ st.hits ∧ st.hits ≤ 1000000 ∧ 0 ≤ st.miss ∧ st.miss ≤ 1000000) := ⟨⟨b1, by omega, b3, by omega⟩⟩
      clear HC o2 b1 b2 b3 b4 htl
      rcases o1 with rfl | rfl
      · skip
        go_wp2_with (first
            | ((with_reducible refine gate_dst (N := 12) rfl ?_); (try (refine gate_guard (by rfl) ?_; dsimp only)); refine box_event ?hg (N := 12) ?hd (cs := #[.int .i64 0, .int .i64 0, .int .i64 0]) (t := 33) ?hr ?_; (case hd => rfl); (case hg => rfl); (case hr => first | (go_simp; done) | (go_simp; rfl)); intro gx hgx w10 hb1 hB1; have X1 := Aside0.mk hgx; have X2 := Aside0.mk hb1; have X3 := Aside0.mk hB1; clear hgx hb1 hB1)
            | ((with_reducible refine gate_store (t := 33) (p := 12) rfl ?_); refine row_event (ty := 33) (p := 12) (v := ?vo_12) ?hg ?ho ?hn gx #[.int .i64 0, .int .i64 k, .int .i64 u] ?hx ?hy 33 #[.int .i64 0, .int .i64 0, .int .i64 0] ?hh ?hi ?hs ?h1 ?_; (case ho => rfl); (case hg => rfl); (case hn => rfl); (case hx => rfl); (case hy => rfl); (case hi => kernel_rfl); (case hs => rfl); (case h1 => first | kernel_rfl | (simp [Value.oneCell']; done)); (case hh => exact X2.out); intro w12 hw; have fg := ready2 (x := ⟨0, k, u⟩) HRS.out X1.out X2.out X3.out hw; have cg := ready3 (x := ⟨0, k, u⟩) HRS.out X1.out X2.out X3.out hw; have X4 := Aside0.mk hw; clear hw)
            | ((with_reducible refine gate_store (t := 40) (p := 8) rfl ?_); refine store_event (t := 40) (p := 8) (v := ?vo_8) (w1 := (w12.setCell ⟨w.heap.size, 0, none⟩ (.slice none 0 0))) ?hg ?ho ?hn ?hr ?_; (case ho => rfl); (case hg => rfl); (case hn => rfl); (case hr => first | (go_simp; done) | (go_simp; rfl)); intro w13 hw; have X5 := Aside0.mk hw; clear hw fg cg)
            | ((with_reducible refine gate_dst (N := 13) rfl ?_); (try (refine gate_guard (by rfl) ?_; dsimp only)); refine box_event ?hg (N := 13) ?hd (cs := #[.bool false, .int .i64 0, .int .i64 0, .float .f64 0, .bool false, .slice none 0 0]) (t := 42) ?hr ?_; (case hd => rfl); (case hg => rfl); (case hr => first | (go_simp; done) | (go_simp; rfl)); intro go hgo w14 hb1 hB1; have X6 := Aside0.mk hgo; have X7 := Aside0.mk hb1; have X8 := Aside0.mk hB1; clear hgo hb1 hB1)
            | ((with_reducible refine gate_store (t := 42) (p := 13) rfl ?_); refine row_event (ty := 42) (p := 13) (v := ?vo_13) ?hg ?ho ?hn go #[.bool false, .int .i64 0, .int .i64 0, .float .f64 0, .bool false, .slice none 0 0] ?hx ?hy 42 #[.bool false, .int .i64 0, .int .i64 0, .float .f64 0, .bool false, .slice none 0 0] ?hh ?hi ?hs ?h1 ?_; (case ho => rfl); (case hg => rfl); (case hn => rfl); (case hx => rfl); (case hy => rfl); (case hi => kernel_rfl); (case hs => rfl); (case h1 => first | kernel_rfl | (simp [Value.oneCell']; done)); (case hh => exact X7.out); intro w15 hw; have HI := Aside0.mk (ready (x := ⟨0, k, u⟩) HRS.out X1.out X2.out X3.out X4.out X5.out X6.out X7.out X8.out hw); clear hw X1 X2 X3 X4 X5 X6 X7 X8; have p0 : w15.cell? ⟨gx, 0, none⟩ = some (.int .i64 0) := HI.out.facts.1.1; have p1 : w15.cell? ⟨gx, 1, none⟩ = some (.int .i64 k) := HI.out.facts.1.2.1; have p2 : w15.cell? ⟨gx, 2, none⟩ = some (.int .i64 u) := HI.out.facts.1.2.2.1)
            | (go_at_call 29; refine (add_c HI.out.cs HW.out HN.out.1).mono ?_; rintro e w16 ⟨l', rfl, c1, c2, c3, c4⟩; have HI2 := Aside0.mk (HI.out.call c1 c3 c4); have HK2 := Aside0.mk c2; clear c1 c2 c3 c4; have fa0 := HI2.out.facts.2 0; have ga0 : w16.cell? ⟨go, 0, none⟩ = some (.bool false) := (blk_cell HI2.out.ho 0).trans rfl)
            | ((with_reducible refine gate_store (t := 4) (p := 40) rfl ?_); refine store_event (t := 4) (p := 40) (v := ?vo_40) (w1 := (w16.setCell ⟨go, 0, none⟩ (.bool (addF n (kvs l) k u).2))) ?hg ?ho ?hn ?hr ?_; (case ho => rfl); (case hg => rfl); (case hn => rfl); (case hr => first | (go_simp; done) | (go_simp; rfl)); intro w17 hw; have HI3 := Aside0.mk (HI2.out.put 0 (.bool (addF n (kvs l) k u).2)); rw [← hw] at HI3; clear hw; have p8 : w17.cell? ⟨w.heap.size, 0, none⟩ = some (.slice none 0 0) := HI3.out.facts.1.2.2.2; have fb5 := HI3.out.facts.2 5; have gb5 : w17.cell? ⟨go, 5, none⟩ = some (.slice none 0 0) := (blk_cell HI3.out.ho 5).trans rfl)
            | ((with_reducible refine gate_store (t := 40) (p := 98) rfl ?_); refine store_event (t := 40) (p := 98) (v := ?vo_98) (w1 := (w17.setCell ⟨go, 5, none⟩ (.slice none 0 0))) ?hg ?ho ?hn ?hr ?_; (case ho => rfl); (case hg => rfl); (case hn => rfl); (case hr => first | (go_simp; done) | (go_simp; rfl)); intro w20 hw; have HI4 := Aside0.mk (HI3.out.put 5 (.slice none 0 0)); rw [← hw] at HI4; clear hw; have c0 : w20.cell? ⟨go, 0, none⟩ = some (.bool (addF n (kvs l) k u).2) := (blk_cell HI4.out.ho 0).trans rfl; have c1 : w20.cell? ⟨go, 1, none⟩ = some (.int .i64 0) := (blk_cell HI4.out.ho 1).trans rfl; have c2 : w20.cell? ⟨go, 2, none⟩ = some (.int .i64 0) := (blk_cell HI4.out.ho 2).trans rfl; have c3 : w20.cell? ⟨go, 3, none⟩ = some (.float .f64 0) := (blk_cell HI4.out.ho 3).trans rfl; have c4 : w20.cell? ⟨go, 4, none⟩ = some (.bool false) := (blk_cell HI4.out.ho 4).trans rfl; have c5 : w20.cell? ⟨go, 5, none⟩ = some (.slice none 0 0) := (blk_cell HI4.out.ho 5).trans rfl)
            | ((with_reducible refine gate_builtin (b := .append) (xs := #[.tmp 99, .tmp 101]) rfl ?_); at_builtin; refine Kd.R_append k42 (w0 := w) w.heap.size rfl (.tmp 99) (.tmp 101) 34 42 (.agg #[.bool false, .int .i64 0, .int .i64 0, .float .f64 0, .bool false, .slice none 0 0]) 64 rfl Try.underlying34 info42 rfl (by decide) (by omega) u10 outs (⟨(addF n (kvs l) k u).2, 0, 0, 0, false, []⟩ : S42) [.bool (addF n (kvs l) k u).2, .int .i64 0, .int .i64 0, .float .f64 0, .bool false, .slice none 0 0] (fun _ => True) (fun _ => False) rfl rfl ?aP (fun _ hk => hk.elim) ?aF ?aO ?aB ?aS ?aL ?_; (case aP => exact k42_mkM _ _ _ _ (Kd.R_nil _ _ _ _ _)); (case aF => exact (fun _ _ => trivial)); (case aO => exact row_kept HRS.out HI4.out); (case aB => exact bel_kept HRS.out HI4.out); (case aS => exact (bel_kept HRS.out HI4.out).size); (case aL => omega); intro v2 w21 ho hb hg hat; have HO := Aside0.mk ho; have HB := Aside0.mk hb; have HG := Aside0.mk hg; clear ho hb hg hat))
        go_roundw
        case rel =>
          refine ⟨q + 1, l', by go_num, by omega, ?_⟩
          rw [R1.out, R2.out]
          refine Aside0.mk (closed (st' := (stepC n st ⟨0, k, u⟩).1) HRS.out HI4.out ?_ ?_ HB.out HG.out)
          · rw [HK2.out, HRS.out.kl]; rfl
          · have := HO.out
            rw [HRS.out.kl] at this
            exact this
        case measure => simp [intOf]; omega
      · skip
        go_wp2_with (first
            | ((with_reducible refine gate_dst (N := 12) rfl ?_); (try (refine gate_guard (by rfl) ?_; dsimp only)); refine box_event ?hg (N := 12) ?hd (cs := #[.int .i64 0, .int .i64 0, .int .i64 0]) (t := 33) ?hr ?_; (case hd => rfl); (case hg => rfl); (case hr => first | (go_simp; done) | (go_simp; rfl)); intro gx hgx w10 hb1 hB1; have X1 := Aside0.mk hgx; have X2 := Aside0.mk hb1; have X3 := Aside0.mk hB1; clear hgx hb1 hB1)
            | ((with_reducible refine gate_store (t := 33) (p := 12) rfl ?_); refine row_event (ty := 33) (p := 12) (v := ?vo_12) ?hg ?ho ?hn gx #[.int .i64 1, .int .i64 k, .int .i64 u] ?hx ?hy 33 #[.int .i64 0, .int .i64 0, .int .i64 0] ?hh ?hi ?hs ?h1 ?_; (case ho => rfl); (case hg => rfl); (case hn => rfl); (case hx => rfl); (case hy => rfl); (case hi => kernel_rfl); (case hs => rfl); (case h1 => first | kernel_rfl | (simp [Value.oneCell']; done)); (case hh => exact X2.out); intro w12 hw; have fg := ready2 (x := ⟨1, k, u⟩) HRS.out X1.out X2.out X3.out hw; have cg := ready3 (x := ⟨1, k, u⟩) HRS.out X1.out X2.out X3.out hw; have X4 := Aside0.mk hw; clear hw)
            | ((with_reducible refine gate_store (t := 40) (p := 8) rfl ?_); refine store_event (t := 40) (p := 8) (v := ?vo_8) (w1 := (w12.setCell ⟨w.heap.size, 0, none⟩ (.slice none 0 0))) ?hg ?ho ?hn ?hr ?_; (case ho => rfl); (case hg => rfl); (case hn => rfl); (case hr => first | (go_simp; done) | (go_simp; rfl)); intro w13 hw; have X5 := Aside0.mk hw; clear hw fg cg)
            | ((with_reducible refine gate_dst (N := 13) rfl ?_); (try (refine gate_guard (by rfl) ?_; dsimp only)); refine box_event ?hg (N := 13) ?hd (cs := #[.bool false, .int .i64 0, .int .i64 0, .float .f64 0, .bool false, .slice none 0 0]) (t := 42) ?hr ?_; (case hd => rfl); (case hg => rfl); (case hr => first | (go_simp; done) | (go_simp; rfl)); intro go hgo w14 hb1 hB1; have X6 := Aside0.mk hgo; have X7 := Aside0.mk hb1; have X8 := Aside0.mk hB1; clear hgo hb1 hB1)
            | ((with_reducible refine gate_store (t := 42) (p := 13) rfl ?_); refine row_event (ty := 42) (p := 13) (v := ?vo_13) ?hg ?ho ?hn go #[.bool false, .int .i64 0, .int .i64 0, .float .f64 0, .bool false, .slice none 0 0] ?hx ?hy 42 #[.bool false, .int .i64 0, .int .i64 0, .float .f64 0, .bool false, .slice none 0 0] ?hh ?hi ?hs ?h1 ?_; (case ho => rfl); (case hg => rfl); (case hn => rfl); (case hx => rfl); (case hy => rfl); (case hi => kernel_rfl); (case hs => rfl); (case h1 => first | kernel_rfl | (simp [Value.oneCell']; done)); (case hh => exact X7.out); intro w15 hw; have HI := Aside0.mk (ready (x := ⟨1, k, u⟩) HRS.out X1.out X2.out X3.out X4.out X5.out X6.out X7.out X8.out hw); clear hw X1 X2 X3 X4 X5 X6 X7 X8; have p0 : w15.cell? ⟨gx, 0, none⟩ = some (.int .i64 1) := HI.out.facts.1.1; have p1 : w15.cell? ⟨gx, 1, none⟩ = some (.int .i64 k) := HI.out.facts.1.2.1; have p2 : w15.cell? ⟨gx, 2, none⟩ = some (.int .i64 u) := HI.out.facts.1.2.2.1)
            | (go_at_call 30; refine (get_c HI.out.cs HW.out HN.out.1 HB4.out.1 HB4.out.2.1 HB4.out.2.2.1 HB4.out.2.2.2).mono ?_; rintro e w16 ⟨l', rfl, c1, c2, c3, c4⟩; have HI2 := Aside0.mk (HI.out.call c1 c3 c4); have HK2 := Aside0.mk c2; clear c1 c2 c3 c4; have fa2 := HI2.out.facts.2 2; have ga2 : w16.cell? ⟨go, 2, none⟩ = some (.int .i64 0) := (blk_cell HI2.out.ho 2).trans rfl)
            | ((with_reducible refine gate_store (t := 3) (p := 50) rfl ?_); refine store_event (t := 3) (p := 50) (v := ?vo_50) (w1 := (w16.setCell ⟨go, 2, none⟩ (.int .i64 (getF (kvs l) k).2.1))) ?hg ?ho ?hn ?hr ?_; (case ho => rfl); (case hg => rfl); (case hn => rfl); (case hr => first | (go_simp; done) | (go_simp; rfl)); intro w16b hw; have HI2b := Aside0.mk (HI2.out.put 2 (.int .i64 (getF (kvs l) k).2.1)); rw [← hw] at HI2b; clear hw; have fc0 := HI2b.out.facts.2 0; have gc0 : w16b.cell? ⟨go, 0, none⟩ = some (.bool false) := (blk_cell HI2b.out.ho 0).trans rfl)
            | ((with_reducible refine gate_store (t := 4) (p := 51) rfl ?_); refine store_event (t := 4) (p := 51) (v := ?vo_51) (w1 := (w16b.setCell ⟨go, 0, none⟩ (.bool (getF (kvs l) k).2.2))) ?hg ?ho ?hn ?hr ?_; (case ho => rfl); (case hg => rfl); (case hn => rfl); (case hr => first | (go_simp; done) | (go_simp; rfl)); intro w17 hw; have HI3 := Aside0.mk (HI2b.out.put 0 (.bool (getF (kvs l) k).2.2)); rw [← hw] at HI3; clear hw; have p8 : w17.cell? ⟨w.heap.size, 0, none⟩ = some (.slice none 0 0) := HI3.out.facts.1.2.2.2; have fb5 := HI3.out.facts.2 5; have gb5 : w17.cell? ⟨go, 5, none⟩ = some (.slice none 0 0) := (blk_cell HI3.out.ho 5).trans rfl)
            | ((with_reducible refine gate_store (t := 40) (p := 98) rfl ?_); refine store_event (t := 40) (p := 98) (v := ?vo_98) (w1 := (w17.setCell ⟨go, 5, none⟩ (.slice none 0 0))) ?hg ?ho ?hn ?hr ?_; (case ho => rfl); (case hg => rfl); (case hn => rfl); (case hr => first | (go_simp; done) | (go_simp; rfl)); intro w20 hw; have HI4 := Aside0.mk (HI3.out.put 5 (.slice none 0 0)); rw [← hw] at HI4; clear hw; have c0 : w20.cell? ⟨go, 0, none⟩ = some (.bool (getF (kvs l) k).2.2) := (blk_cell HI4.out.ho 0).trans rfl; have c1 : w20.cell? ⟨go, 1, none⟩ = some (.int .i64 0) := (blk_cell HI4.out.ho 1).trans rfl; have c2 : w20.cell? ⟨go, 2, none⟩ = some (.int .i64 (getF (kvs l) k).2.1) := (blk_cell HI4.out.ho 2).trans rfl; have c3 : w20.cell? ⟨go, 3, none⟩ = some (.float .f64 0) := (blk_cell HI4.out.ho 3).trans rfl; have c4 : w20.cell? ⟨go, 4, none⟩ = some (.bool false) := (blk_cell HI4.out.ho 4).trans rfl; have c5 : w20.cell? ⟨go, 5, none⟩ = some (.slice none 0 0) := (blk_cell HI4.out.ho 5).trans rfl)
            | ((with_reducible refine gate_builtin (b := .append) (xs := #[.tmp 99, .tmp 101]) rfl ?_); at_builtin; refine Kd.R_append k42 (w0 := w) w.heap.size rfl (.tmp 99) (.tmp 101) 34 42 (.agg #[.bool false, .int .i64 0, .int .i64 0, .float .f64 0, .bool false, .slice none 0 0]) 64 rfl Try.underlying34 info42 rfl (by decide) (by omega) u10 outs (⟨(getF (kvs l) k).2.2, 0, (getF (kvs l) k).2.1, 0, false, []⟩ : S42) [.bool (getF (kvs l) k).2.2, .int .i64 0, .int .i64 (getF (kvs l) k).2.1, .float .f64 0, .bool false, .slice none 0 0] (fun _ => True) (fun _ => False) rfl rfl ?aP (fun _ hk => hk.elim) ?aF ?aO ?aB ?aS ?aL ?_; (case aP => exact k42_mkM _ _ _ _ (Kd.R_nil _ _ _ _ _)); (case aF => exact (fun _ _ => trivial)); (case aO => exact row_kept HRS.out HI4.out); (case aB => exact bel_kept HRS.out HI4.out); (case aS => exact (bel_kept HRS.out HI4.out).size); (case aL => omega); intro v2 w21 ho hb hg hat; have HO := Aside0.mk ho; have HB := Aside0.mk hb; have HG := Aside0.mk hg; clear ho hb hg hat))
        go_roundw
        case rel =>
          refine ⟨q + 1, l', by go_num, by omega, ?_⟩
          rw [R1.out, R2.out]
          have HI5 := HI4.out
          have HK5 := HK2.out
          have HO5 := HO.out
          rw [HRS.out.kl] at HI5 HK5 HO5
          exact Aside0.mk (closed (st' := (stepC n st ⟨1, k, u⟩).1) HRS.out HI5 HK5 HO5 HB.out HG.out)
        case measure => simp [intOf]; omega
    · obtain rfl : q = ops.length := by omega
      have HR := HRS.out.row
      rw [List.take_length] at HR
      go_wp2
      go_ret2
      exact ⟨_, rfl, HR, HRS.out.bel⟩
end Go.Proofs.Ytphnnbbgcnilgaa.CacX
