/-
  Proved: Purge of a cache with the script's callback: it is told every entry once, the cache is as a new one. Conditions: the cache's state; nothing is gone yet.
-/
import Derived.Test.YtphnnbbgcnilgaaCacI
namespace Go.Proofs.Ytphnnbbgcnilgaa.CacJ
open Go Go.RowKit Go.ChangeMaps Go.Proofs.YtphnnbbgcnilgaaW.PrintWords Go.Proofs.Ytphnnbbgcnilgaa.Common Go.Proofs.Ytphnnbbgcnilgaa.IMapN Go.Proofs.Ytphnnbbgcnilgaa.CacN Go.Proofs.Ytphnnbbgcnilgaa.CacA Go.Proofs.Ytphnnbbgcnilgaa.CacS Go.Proofs.Ytphnnbbgcnilgaa.CacT Go.Proofs.Ytphnnbbgcnilgaa.CacU Go.Proofs.Ytphnnbbgcnilgaa.CacV Go.Proofs.Ytphnnbbgcnilgaa.CacW Go.Proofs.Ytphnnbbgcnilgaa.CacG Go.Proofs.Ytphnnbbgcnilgaa.CacH Go.Proofs.Ytphnnbbgcnilgaa.CacI
set_option linter.unusedVariables false
set_option linter.unusedSimpArgs false
set_option maxRecDepth 1000000
structure PS (w : World) (C : Nat) (n : Int) (m b8 B r : Nat) (hits miss : Int) (l : List E) (es : Array MapEntry) (clock : Nat) (seen : Array Nat) (gv : Value) (G : List KV) (W : World) : Prop where
  cs : CS (evF b8) C n m hits miss l W
  gs : GS b8 B gv G W
  mp : W.heap[m]? = some (.map es clock)
  it : W.heap[r]? = some (.mapIter (some m) clock seen clock)
  kp : KeptB (ow C m l b8 nilS) w W
  gn : ∀ b, gw b8 gv b → gw b8 nilS b ∨ w.heap.size ≤ b
  hr : w.heap.size ≤ r
  lt : ∀ b, own C m l b → b < w.heap.size
theorem setBlock_far (W : World) (r b : Nat) (o : Obj) (h : b ≠ r) : (setBlock W r o).heap[b]? = W.heap[b]? := by
  simp only [setBlock]
  rw [Array.getElem?_setIfInBounds]
  rw [if_neg (fun e => h e.symm)]
theorem setBlock_at {W : World} {r : Nat} {o' : Obj} (o : Obj) (h : W.heap[r]? = some o') : (setBlock W r o).heap[r]? = some o := by
  have := (Array.getElem?_eq_some_iff.1 h).1
  simp only [setBlock]
  rw [Array.getElem?_setIfInBounds, if_pos rfl, if_pos this]
theorem PS.next {w : World} {C : Nat} {n : Int} {m b8 B r : Nat} {hits miss : Int} {l : List E} {es : Array MapEntry} {clock : Nat} {seen : Array Nat} {gv : Value} {G : List KV} {W : World} (h : PS w C n m b8 B r hits miss l es clock seen gv G W) {w1 : World} (h1 : w1 = W ∨ w1 = W.drew) (seen' : Array Nat) :
    PS w C n m b8 B r hits miss l es clock seen' gv G (setBlock w1 r (.mapIter (some m) clock seen' clock)) := by
  have e1 : w1.heap = W.heap := by rcases h1 with rfl | rfl <;> rfl
  have eo : w1.os = W.os ∧ w1.tape = W.tape ∧ w1.output = W.output := by rcases h1 with rfl | rfl <;> exact ⟨rfl, rfl, rfl⟩
  have far : ∀ b, b ≠ r → (setBlock w1 r (.mapIter (some m) clock seen' clock)).heap[b]? = W.heap[b]? := fun b hb => by rw [setBlock_far _ _ _ _ hb, e1]
  have hor : ∀ b, own C m l b → b ≠ r := fun b hb => by have := h.lt b hb; have := h.hr; omega
  have hcell : ∀ b t (T : Array Value), W.heap[b]? = some (.cells T t (0, 0)) → b ≠ r := fun b t T hb e => by subst e; rw [h.it] at hb; cases hb
  refine ⟨CS.frame h.cs (fun b hb => far b (hor b hb)), ⟨(far b8 (hcell _ _ _ h.gs.hb)).trans h.gs.hb, ?_, ?_⟩, (far m (hor m (Or.inr (Or.inl rfl)))).trans h.mp, setBlock_at _ (by rw [e1]; exact h.it), ⟨eo.1.trans h.kp.os, eo.2.1.trans h.kp.tape, eo.2.2.trans h.kp.output, ?_, fun b hb hn => ?_⟩, h.gn, h.hr, h.lt⟩
  · refine Kd.R_mono (Kd.R_step (Kd.R_bound h.gs.row) (fun b hb hlt => far b ?_)) (fun _ _ => trivial)
    obtain ⟨_, _, _, q, hq, cells, hc⟩ := hb
    exact hcell _ _ _ hc
  · show B ≤ (w1.heap.setIfInBounds r _).size
    rw [Array.size_setIfInBounds, e1]; exact h.gs.le
  · show w.heap.size ≤ (w1.heap.setIfInBounds r _).size
    rw [Array.size_setIfInBounds, e1]; exact h.kp.size
  · rw [far b (by have := h.hr; omega)]; exact h.kp.blk b hb hn
theorem PS.drew {w : World} {C : Nat} {n : Int} {m b8 B r : Nat} {hits miss : Int} {l : List E} {es : Array MapEntry} {clock : Nat} {seen : Array Nat} {gv : Value} {G : List KV} {W : World} (h : PS w C n m b8 B r hits miss l es clock seen gv G W) : PS w C n m b8 B r hits miss l es clock seen gv G W.drew :=
  ⟨CS.frame h.cs (fun _ _ => rfl), GS.drew h.gs, h.mp, h.it, h.kp.drew, h.gn, h.hr, h.lt⟩
theorem PS.told {w : World} {C : Nat} {n : Int} {m b8 B r : Nat} {hits miss : Int} {l : List E} {es : Array MapEntry} {clock : Nat} {seen : Array Nat} {gv gv' : Value} {G G' : List KV} {W W' : World} (h : PS w C n m b8 B r hits miss l es clock seen gv G W) (g : GS b8 B gv' G' W') (k : KeptB (gw b8 gv) W W') (hn : ∀ b, gw b8 gv' b → gw b8 gv b ∨ W.heap.size ≤ b) :
    PS w C n m b8 B r hits miss l es clock seen gv' G' W' := by
  have hno := gw_not h.cs h.gs
  have hrn : ¬ gw b8 gv r := by
    rintro (e | e)
    · have := h.gs.hb; rw [← e, h.it] at this; cases this
    · obtain ⟨inner, ho, _⟩ := h.gs.row.2
      obtain ⟨cells, hc⟩ := own_typed ho r e.symm
      rw [h.it] at hc; cases hc
  refine ⟨CS.keepG h.cs h.gs k, g, (k.blk m (Array.getElem?_eq_some_iff.1 h.mp).1 (hno m (Or.inr (Or.inl rfl)))).trans h.mp, (k.blk r (Array.getElem?_eq_some_iff.1 h.it).1 hrn).trans h.it, h.kp.trans k (fun b hb hg => ?_), fun b hb => ?_, h.hr, h.lt⟩
  · rcases h.gn b hg with h1 | h1
    · exact Or.inr h1
    · omega
  · rcases hn b hb with h1 | h1
    · exact h.gn b h1
    · exact Or.inr (Nat.le_trans h.kp.size h1)
theorem purged {w : World} {C : Nat} {n : Int} {m b8 B r : Nat} {hits miss : Int} {l : List E} {es : Array MapEntry} {clock : Nat} {seen : Array Nat} {gv : Value} {G : List KV} {wr wA : World} (h : PS w C n m b8 B r hits miss l es clock seen gv G wr) (e : wA = wr.alloc (.map #[] 0)) :
    Post C n m b8 B l w ⟨[], 0, 0⟩ G (((((wA.setCell ⟨C, 1, none⟩ (.map (some wr.heap.size))).setCell ⟨C, 2, none⟩ (.pointer none)).setCell ⟨C, 3, none⟩ (.pointer none)).setCell ⟨C, 5, none⟩ (.int .i64 0)).setCell ⟨C, 6, none⟩ (.int .i64 0)) := by
  have hlt := CS.lt h.cs C (Or.inl rfl)
  have oC : own C m l C := Or.inl rfl
  have kk : KeptB (own C m l) wr (((((wA.setCell ⟨C, 1, none⟩ (.map (some wr.heap.size))).setCell ⟨C, 2, none⟩ (.pointer none)).setCell ⟨C, 3, none⟩ (.pointer none)).setCell ⟨C, 5, none⟩ (.int .i64 0)).setCell ⟨C, 6, none⟩ (.int .i64 0)) := by
    rw [e]
    exact ((((((KeptB.refl (own C m l) wr).alloc _).set (Or.inl oC) _).set (Or.inl oC) _).set (Or.inl oC) _).set (Or.inl oC) _).set (Or.inl oC) _
  have hA : wA.heap[C]? = some (.cells (headC (evF b8) n m hits miss (headO l none) (lastO none l)) 94 (0, 0)) := by rw [e]; exact (Below.heap_alloc _ _ _ hlt).trans h.cs.dl.hd
  refine ⟨⟨wr.heap.size, [], gv, ⟨⟨?_, trivial, by simp⟩, ?_, by simp, by simp⟩, rfl, GS.keep h.cs h.gs kk, ?_⟩, h.kp.trans kk (fun b _ hb => Or.inl hb)⟩
  · exact (set_blk _ _ _ _ _ _ ((set_blk _ _ _ _ _ _ ((set_blk _ _ _ _ _ _ ((set_blk _ _ _ _ _ _ ((set_blk _ _ _ _ _ _ hA).trans rfl)).trans rfl)).trans rfl)).trans rfl)).trans rfl
  · have hne : ∀ j, (⟨C, j, none⟩ : Addr).block ≠ wr.heap.size := fun j => Nat.ne_of_lt hlt
    have := imapN_made wr .i64
    rw [← e] at this
    exact imapN_setCell (imapN_setCell (imapN_setCell (imapN_setCell (imapN_setCell this _ (hne 1) _) _ (hne 2) _) _ (hne 3) _) _ (hne 5) _) _ (hne 6) _
  · rintro b (hb | hb)
    · rcases hb with rfl | rfl | ⟨x, hx, _⟩
      · exact Or.inl (Or.inl (Or.inl rfl))
      · exact Or.inr h.kp.size
      · cases hx
    · rcases h.gn b hb with h1 | h1
      · exact Or.inl (Or.inr h1)
      · exact Or.inr h1
set_option maxHeartbeats 4000000 in
theorem purge_e {C m b8 B : Nat} {n hits miss : Int} {l : List E} {w : World} (h : CS (evF b8) C n m hits miss l w) (hG : GS b8 B nilS [] w) (hsz : 0 < n) (hl : l.length ≤ 100000) :
    Calls Try.prog 35 #[.pointer (some ⟨C, 0, none⟩)] w fun e w' => ∃ u, e = .returned u ∧ ∃ G, G.Perm (kvs l) ∧ Post C n m b8 B l w ⟨[], 0, 0⟩ G w' := by
  have q0 : w.cell? ⟨C, 0, none⟩ = some (.int .i64 n) := (blk_cell h.dl.hd 0).trans rfl
  have q1 : w.cell? ⟨C, 1, none⟩ = some (.map (some m)) := (blk_cell h.dl.hd 1).trans rfl
  have q4 : w.cell? ⟨C, 4, none⟩ = some (.func (.func 28) #[] #[.pointer (some ⟨b8, 0, none⟩)]) := (blk_cell h.dl.hd 4).trans rfl
  have qd : decide (n ≤ 0) = false := decide_eq_false (by omega)
  have hnf : (binOp .neq 90 (.func (.func 28) #[] #[.pointer (some ⟨b8, 0, none⟩)]) .nilFunc).run Try.prog w = .ok (.bool true) w := neq_func w b8
  obtain ⟨es, clock, hm, hes, hst, hen, hep⟩ := CS.map h
  have hrg := range_at (P := Try.prog) w 91 3 92 m es clock Try.underlying91 hm
  have HL := Aside0.mk h
  have HE := Aside0.mk (And.intro hes (And.intro hst (And.intro hen hep)))
  have HP : Aside0 (PS w C n m b8 B w.heap.size hits miss l es clock #[] nilS [] (w.alloc (.mapIter (some m) clock #[] clock))) := by
    have lt := CS.lt h
    refine ⟨⟨CS.frame h (fun b hb => Below.heap_alloc _ _ _ (lt b hb)), ⟨(Below.heap_alloc _ _ _ (Array.getElem?_eq_some_iff.1 hG.hb).1).trans hG.hb, Kd.R_nil _ _ _ _ _, by rw [World.size_alloc]; have := hG.le; omega⟩, (Below.heap_alloc _ _ _ (lt m (Or.inr (Or.inl rfl)))).trans hm, (MapKept.heap_alloc w _).1, (KeptB.refl _ _).alloc _, fun b hb => Or.inl hb, Nat.le_refl _, lt⟩⟩
  obtain ⟨wa, hwa⟩ : ∃ wa, wa = w.alloc (.mapIter (some m) clock #[] clock) := ⟨_, rfl⟩
  rw [← hwa] at hrg HP
  clear h hG hsz hm hes hst hen hep hwa
  go_enter Try.func35, Try.ntmps35
  go_wp2
  go_loopw [2] (fun _ wr => ∃ (seen : Array Nat) (gv : Value) (G : List KV), Aside0 (PS w C n m b8 B w.heap.size hits miss l es clock seen gv G wr) ∧ Aside0 (G.Perm (CacI.told (kvs l) es seen))) (fun _ wr => (leftOf es (wr.iterSeen w.heap.size)).size)
  case atStart => exact ⟨#[], nilS, [], HP, ⟨by rw [told_nil]⟩⟩
  case round =>
    obtain ⟨seen, gv, G, HPS, HPM⟩ := hrel
    clear HP hrg q0 q1 q4 qd hnf
    have hGl : G.length ≤ 100000 := by
      rw [HPM.out.length_eq]
      unfold CacI.told
      rw [List.length_map]
      refine Nat.le_trans (List.length_filter_le _ _) ?_
      rw [Array.length_toList, HE.out.1]; exact hl
    rcases next_at (P := Try.prog) wr 0 w.heap.size m clock clock seen es clock HPS.out.it HPS.out.mp (fun x hx => HE.out.2.1.2 x hx) (Nat.le_refl _) with ⟨h0, hnx⟩ | ⟨e, he, w1, hw1, hnx⟩
    · have HEND : Aside0 (G.Perm (kvs l)) := ⟨HPM.out.trans (told_all h0 HL.out.nk HE.out.2.2.1 HE.out.2.2.2 HE.out.1)⟩
      have hmk := run_mk n wr
      have q0 : wr.cell? ⟨C, 0, none⟩ = some (.int .i64 n) := (blk_cell HPS.out.cs.dl.hd 0).trans rfl
      obtain ⟨wA, hwA⟩ : ∃ wA, wA = wr.alloc (.map #[] 0) := ⟨_, rfl⟩
      rw [← hwA] at hmk
      have hA : wA.heap[C]? = some (.cells (headC (evF b8) n m hits miss (headO l none) (lastO none l)) 94 (0, 0)) := by rw [hwA]; exact (Below.heap_alloc _ _ _ (CS.lt HPS.out.cs C (Or.inl rfl))).trans HPS.out.cs.dl.hd
      have a1 : wA.cell? ⟨C, 1, none⟩ = some (.map (some m)) := (blk_cell hA 1).trans rfl
      have a2 : wA.cell? ⟨C, 2, none⟩ = some (ptr (headO l none)) := (blk_cell hA 2).trans rfl
      have a3 : wA.cell? ⟨C, 3, none⟩ = some (ptr (lastO none l)) := (blk_cell hA 3).trans rfl
      have a5 : wA.cell? ⟨C, 5, none⟩ = some (.int .i64 hits) := (blk_cell hA 5).trans rfl
      have a6 : wA.cell? ⟨C, 6, none⟩ = some (.int .i64 miss) := (blk_cell hA 6).trans rfl
      have f1 := blk_frozen hA 1
      have f2 := blk_frozen hA 2
      have f3 := blk_frozen hA 3
      have f5 := blk_frozen hA 5
      have f6 := blk_frozen hA 6
      have HA := Aside0.mk hA
      have HWA := Aside0.mk hwA
      clear h0 hA hwA
      go_wp2
      go_end0
      exact ⟨_, rfl, G, HEND.out, purged HPS.out HWA.out⟩
    · have he1 : e ∈ es.toList := by
        unfold leftOf at he
        rw [Array.toList_filter] at he
        exact (List.mem_filter.1 he).1
      obtain ⟨⟨g, k, v⟩, hx, hk, hv⟩ := HE.out.2.2.1 e he1
      rw [hk, hv] at hnx
      have HP2 := Aside0.mk (HPS.out.next hw1 (seen.push e.born))
      have hent := entry_at (P := Try.prog) (setBlock w1 w.heap.size (.mapIter (some m) clock (seen.push e.born) clock)) w.heap.size m clock seen es clock e HP2.out.it HP2.out.mp he1 HE.out.2.1.1
      rw [hk, hv] at hent
      have HTS : Aside0 ((G ++ [(k, v)]).Perm (CacI.told (kvs l) es (seen.push e.born))) := ⟨by
        have := told_step (kvs l) es seen HE.out.2.1.1 e he G HPM.out
        rwa [kvE_of HL.out.nk hx hk] at this⟩
      have HLS : Aside0 ((leftOf es (seen.push e.born)).size < (leftOf es seen).size) := ⟨left_shrinks es seen e he⟩
      have HIS : Aside0 (wr.iterSeen w.heap.size = seen) := ⟨by unfold World.iterSeen; rw [HPS.out.it]⟩
      generalize setBlock w1 w.heap.size (.mapIter (some m) clock (seen.push e.born) clock) = W2 at hnx hent HP2
      have c4 : W2.cell? ⟨C, 4, none⟩ = some (.func (.func 28) #[] #[.pointer (some ⟨b8, 0, none⟩)]) := (blk_cell HP2.out.cs.dl.hd 4).trans rfl
      obtain ⟨p', n', hgb⟩ := seg_mem _ _ _ HP2.out.cs.dl.sg (g, k, v) hx
      have c1 : W2.cell? ⟨g, 1, none⟩ = some (.int .i64 v) := (blk_cell hgb 1).trans rfl
      clear hgb hx hk hv he he1 hw1 HPM HPS
      go_wp2
      go_still_tail 9, (by kernel_rfl)
      go_wp2_with (go_at_call 28; refine (evict1 (GS.drew HP2.out.gs) hGl).mono ?_; rintro e2 w3 ⟨u, rfl, gv', h1, h2, h3⟩; have HP3 := Aside0.mk (HP2.out.drew.told h1 h2 h3); clear h1 h2 h3)
      go_roundw
      case rel => exact ⟨_, gv', _, HP3, HTS⟩
      case measure =>
        rw [HIS.out]
        have : w3.iterSeen w.heap.size = seen.push e.born := by unfold World.iterSeen; rw [HP3.out.it]
        rw [this]
        exact HLS.out
end Go.Proofs.Ytphnnbbgcnilgaa.CacJ
