/-
  Proved: an entry of a cache's list is taken out of it, moved to its front. Conditions: the list's state.
-/
import Derived.Test.YtphnnbbgcnilgaaCacB
import Derived.Test.YtphnnbbgcnilgaaCacR
namespace Go.Proofs.Ytphnnbbgcnilgaa.CacS
open Go Go.RowKit Go.Proofs.YtphnnbbgcnilgaaW.PrintWords Go.Proofs.Ytphnnbbgcnilgaa.Common Go.Proofs.Ytphnnbbgcnilgaa.IMapN Go.Proofs.Ytphnnbbgcnilgaa.CacA Go.Proofs.Ytphnnbbgcnilgaa.CacB Go.Proofs.Ytphnnbbgcnilgaa.CacR
set_option linter.unusedVariables false
set_option linter.unusedSimpArgs false
set_option maxRecDepth 1000000

/-- what a call keeps: all blocks that were there, but those of S -/
structure KeptB (S : Nat → Prop) (W W1 : World) : Prop where
  os : W1.os = W.os
  tape : W1.tape = W.tape
  output : W1.output = W.output
  size : W.heap.size ≤ W1.heap.size
  blk : ∀ b, b < W.heap.size → ¬ S b → W1.heap[b]? = W.heap[b]?
theorem KeptB.refl (S : Nat → Prop) (W : World) : KeptB S W W := ⟨rfl, rfl, rfl, Nat.le_refl _, fun _ _ _ => rfl⟩
theorem KeptB.trans {S T : Nat → Prop} {W W1 W2 : World} (h : KeptB S W W1) (k : KeptB T W1 W2) (hs : ∀ b, b < W.heap.size → T b → S b) : KeptB S W W2 :=
  ⟨k.os.trans h.os, k.tape.trans h.tape, k.output.trans h.output, Nat.le_trans h.size k.size, fun b hb hn => (k.blk b (Nat.lt_of_lt_of_le hb h.size) (fun e => hn (hs b hb e))).trans (h.blk b hb hn)⟩
theorem KeptB.below {S : Nat → Prop} {W W1 w0 : World} (h : KeptB S W W1) {B : Nat} (hb : Below B w0 W) (hB : B ≤ W.heap.size) (hS : ∀ b, b < B → ¬ S b) : Below B w0 W1 :=
  hb.trans ⟨h.os, h.tape, h.output, h.size, fun k hk => h.blk k (Nat.lt_of_lt_of_le hk hB) (hS k hk)⟩
theorem KeptB.drew {S : Nat → Prop} {W W1 : World} (h : KeptB S W W1) : KeptB S W W1.drew := ⟨h.os, h.tape, h.output, h.size, h.blk⟩
theorem KeptB.ofdrew {S : Nat → Prop} {W W1 : World} (h : KeptB S W.drew W1) : KeptB S W W1 := ⟨h.os, h.tape, h.output, h.size, h.blk⟩
theorem KeptB.set {S : Nat → Prop} {W W1 : World} (h : KeptB S W W1) {p : Addr} (hp : S p.block ∨ W.heap.size ≤ p.block) (u : Value) : KeptB S W (W1.setCell p u) :=
  ⟨h.os, h.tape, h.output, by rw [World.size_setCell]; exact h.size, fun b hb hn => (Below.heap_setCell W1 p u b (fun e => by subst e; rcases hp with hp | hp; exact hn hp; omega)).trans (h.blk b hb hn)⟩
theorem KeptB.alloc {S : Nat → Prop} {W W1 : World} (h : KeptB S W W1) (o : Obj) : KeptB S W (W1.alloc o) :=
  ⟨h.os, h.tape, h.output, by have := h.size; simp; omega, fun b hb hn => (Below.heap_alloc _ _ _ (by have := h.size; omega)).trans (h.blk b hb hn)⟩
theorem KeptB.grown {S : Nat → Prop} {W W1 W2 : World} (h : KeptB S W W1) {row : Option Nat} (hg : W1.grownBy W2 row) (hr : ∀ k, row = some k → S k ∨ W.heap.size ≤ k) : KeptB S W W2 :=
  ⟨hg.os.trans h.os, hg.tape.trans h.tape, hg.output.trans h.output, Nat.le_trans h.size hg.size, fun b hb hn => (hg.block b (by have := h.size; omega) (fun e => by rcases hr b e.symm with h1 | h1; exact hn h1; omega)).trans (h.blk b hb hn)⟩
/-- the blocks of a cache -/
def own (C m : Nat) (l : List E) (b : Nat) : Prop := b = C ∨ b = m ∨ ∃ x ∈ l, x.1 = b
theorem _root_.Go.Proofs.Ytphnnbbgcnilgaa.CacA.Away.kept {C m : Nat} {l : List E} {W W1 : World} (h : Away C l W W1) : KeptB (own C m l) W W1 := by
  have hb := h.bel 0 W (Below.refl _ _) (Nat.zero_le _) (fun _ _ => Nat.zero_le _)
  exact ⟨hb.os, hb.tape, hb.output, hb.size, fun b _ hn => h.blk b (fun e => hn (Or.inl e)) (fun x hx e => hn (Or.inr (Or.inr ⟨x, hx, e⟩)))⟩
theorem lastO_append (a : List E) (x : E) (b : List E) (p q : Option Nat) : lastO p (a ++ x :: b) = lastO q (x :: b) := by
  induction a generalizing p with
  | nil => rw [List.nil_append, lastO_cons, lastO_cons]
  | cons y t ih => rw [List.cons_append, lastO_cons]; exact ih _
theorem headO_cons (x : E) (t : List E) (n : Option Nat) : headO (x :: t) n = some x.1 := rfl
theorem headO_mid (a : List E) (x y : E) (b c : List E) : headO (a ++ x :: b) none = headO (a ++ x :: c) none := by cases a <;> rfl

theorem remove_c {ev : Value} {C m : Nat} {sz hits miss : Int} (A : List E) {g : Nat} {k v : Int} (B : List E) {w : World} (h : DL ev C sz m hits miss (A ++ (g, k, v) :: B) w) :
    Calls Try.prog 53 #[.pointer (some ⟨C, 0, none⟩), .pointer (some ⟨g, 0, none⟩)] w fun e w' => ∃ u, e = .returned u ∧ DL ev C sz m hits miss (A ++ B) w' ∧ w'.heap[g]? = some (.cells (nodeC k v none none) 97 (0, 0)) ∧ Away C (A ++ (g, k, v) :: B) w w' := by
  have hnd1 : (A ++ B).Pairwise fun a b => a.1 ≠ b.1 := h.nd.sublist (by simp)
  have hne : ∀ x ∈ A ++ (g, k, v) :: B, x.1 ≠ C := fun x hx => by
    obtain ⟨p', n', hb⟩ := seg_mem _ _ _ h.sg x hx
    exact typ_ne hb h.hd (by decide)
  have hg : (A ++ B).all fun x => x.1 ≠ g := by
    have := h.nd
    rw [List.pairwise_append, List.pairwise_cons] at this
    simp only [List.all_eq_true, decide_eq_true_eq, List.mem_append]
    rintro x (hx | hx)
    · exact this.2.2 x hx (g, k, v) (by simp)
    · exact fun e => this.2.1.1 x hx e.symm
  simp only [List.all_eq_true, decide_eq_true_eq] at hg
  have hgC := hne (g, k, v) (by simp)
  obtain ⟨hd, sg, nd⟩ := h
  rcases A.eq_nil_or_concat with rfl | ⟨s, ⟨xa, ak, av⟩, rfl⟩
  · rcases B with _ | ⟨⟨xb, bk, bv⟩, t⟩
    · obtain ⟨q1, q2, q3, q4, q5⟩ := rmw_one sg.1 hd hgC
      refine (rm_one sg.1 hd hgC).mono ?_
      rintro e w' ⟨⟨u, rfl⟩, rfl⟩
      exact ⟨u, rfl, ⟨q2, trivial, by simp⟩, q1, q4, fun b hb hl => q3 b (fun e => hl (g, k, v) (by simp) e.symm) hb, fun B w0 hB hC hl => q5 B w0 hB (hl (g, k, v) (by simp)) hC⟩
    · simp only [List.nil_append] at *
      obtain ⟨tl, htl⟩ := lastO_some (xb, bk, bv) t none
      rw [lastO_cons, lastO_cons, ← lastO_cons none, htl] at hd
      have hgb : g ≠ xb := fun e => hg (xb, bk, bv) (by simp) e.symm
      have hCb : C ≠ xb := fun e => hne (xb, bk, bv) (by simp) e.symm
      obtain ⟨q1, q2, q3, q4, q5, q6⟩ := rmw_first sg.1 hd sg.2.1 hgC hgb hCb
      refine (rm_first sg.1 hd sg.2.1 hgC hgb hCb).mono ?_
      rintro e w' ⟨⟨u, rfl⟩, rfl⟩
      refine ⟨u, rfl, ⟨?_, ⟨q3, seg_frame t _ _ sg.2.2 (fun y hy => q4 y.1 (hg y (by simp [hy])) (hne y (by simp [hy])) (fun e => List.rel_of_pairwise_cons hnd1 hy e.symm))⟩, hnd1⟩, q1, q5, fun b hb hl => q4 b (fun e => hl (g, k, v) (by simp) e.symm) hb (fun e => hl (xb, bk, bv) (by simp) e.symm), fun B w0 hB hC hl => q6 B w0 hB (hl (g, k, v) (by simp)) hC (hl (xb, bk, bv) (by simp))⟩
      rw [htl]; exact q2
  · rw [List.concat_eq_append] at *
    rw [List.append_assoc, List.singleton_append] at *
    obtain ⟨hdx, hhd⟩ : ∃ hdx, headO (s ++ (xa, ak, av) :: B) none = some hdx := by cases s with
      | nil => exact ⟨_, rfl⟩
      | cons y u => exact ⟨_, rfl⟩
    have hga : g ≠ xa := fun e => hg (xa, ak, av) (by simp) e.symm
    have hCa : C ≠ xa := fun e => hne (xa, ak, av) (by simp) e.symm
    have sg1 := (seg_append _ _ _ _).1 sg
    rw [headO_mid s _ (xa, ak, av) _ B, hhd] at hd
    have hsn : ∀ y ∈ s, y.1 ≠ xa := fun y hy => (List.pairwise_append.1 hnd1).2.2 y hy (xa, ak, av) (by simp)
    rcases B with _ | ⟨⟨xb, bk, bv⟩, t⟩
    · rw [lastO_append _ _ _ _ none] at hd
      obtain ⟨q1, q2, q3, q4, q5, q6⟩ := rmw_last sg1.2.2.1 hd sg1.2.1 hgC hga hCa
      refine (rm_last sg1.2.2.1 hd sg1.2.1 hgC hga hCa).mono ?_
      rintro e w' ⟨⟨u, rfl⟩, rfl⟩
      refine ⟨u, rfl, ⟨?_, (seg_append _ _ _ _).2 ⟨seg_frame s _ _ sg1.1 (fun y hy => q4 y.1 (hg y (by simp [hy])) (hne y (by simp [hy])) (hsn y hy)), q3, trivial⟩, hnd1⟩, q1, q5, fun b hb hl => q4 b (fun e => hl (g, k, v) (by simp) e.symm) hb (fun e => hl (xa, ak, av) (by simp) e.symm), fun B w0 hB hC hl => q6 B w0 hB (hl (g, k, v) (by simp)) hC (hl (xa, ak, av) (by simp))⟩
      rw [hhd, lastO_append _ _ _ _ none]; exact q2
    · obtain ⟨tl, htl⟩ := lastO_some (xb, bk, bv) t none
      have hgb : g ≠ xb := fun e => hg (xb, bk, bv) (by simp) e.symm
      have hCb : C ≠ xb := fun e => hne (xb, bk, bv) (by simp) e.symm
      have hnd2 := List.pairwise_append.1 hnd1
      have hab : xa ≠ xb := List.rel_of_pairwise_cons hnd2.2.1 (a' := (xb, bk, bv)) (by simp)
      rw [lastO_append _ _ _ _ none, lastO_cons, lastO_cons, lastO_cons, ← lastO_cons none, htl] at hd
      obtain ⟨q1, q2, q3, q4, q5, q6, q7⟩ := rmw_mid sg1.2.2.1 hd sg1.2.1 sg1.2.2.2.1 hgC hga hgb hCa hCb hab
      refine (rm_mid sg1.2.2.1 hd sg1.2.1 sg1.2.2.2.1 hgC hga hgb hCa hCb hab).mono ?_
      rintro e w' ⟨⟨u, rfl⟩, rfl⟩
      refine ⟨u, rfl, ⟨?_, (seg_append _ _ _ _).2 ⟨seg_frame s _ _ sg1.1 (fun y hy => q5 y.1 (hg y (by simp [hy])) (hne y (by simp [hy])) (hsn y hy) (hnd2.2.2 y hy (xb, bk, bv) (by simp))), q3, q4, seg_frame t _ _ sg1.2.2.2.2 (fun y hy => q5 y.1 (hg y (by simp [hy])) (hne y (by simp [hy])) (fun e => List.rel_of_pairwise_cons hnd2.2.1 (a' := y) (by simp [hy]) e.symm) (fun e => List.rel_of_pairwise_cons (List.pairwise_cons.1 hnd2.2.1).2 hy e.symm))⟩, hnd1⟩, q1, q6, fun b hb hl => q5 b (fun e => hl (g, k, v) (by simp) e.symm) hb (fun e => hl (xa, ak, av) (by simp) e.symm) (fun e => hl (xb, bk, bv) (by simp) e.symm), fun B w0 hB hC hl => q7 B w0 hB (hl (g, k, v) (by simp)) hC (hl (xa, ak, av) (by simp)) (hl (xb, bk, bv) (by simp))⟩
      rw [hhd, lastO_append _ _ _ _ none, lastO_cons, lastO_cons, ← lastO_cons none, htl]; exact q2
end Go.Proofs.Ytphnnbbgcnilgaa.CacS
