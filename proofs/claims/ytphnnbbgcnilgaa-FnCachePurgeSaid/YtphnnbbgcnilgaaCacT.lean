/-
  Proved: moveToFront and removeOldest of a cache (its list and its map). Conditions: the cache's state; removeOldest: no callback.
-/
import Derived.Test.YtphnnbbgcnilgaaCacS
import Derived.LaidEqlPtr
namespace Go.Proofs.Ytphnnbbgcnilgaa.CacT
open Go Go.RowKit Go.Proofs.YtphnnbbgcnilgaaW.PrintWords Go.Proofs.Ytphnnbbgcnilgaa.Common Go.Proofs.Ytphnnbbgcnilgaa.IMapN Go.Proofs.Ytphnnbbgcnilgaa.CacA Go.Proofs.Ytphnnbbgcnilgaa.CacB Go.Proofs.Ytphnnbbgcnilgaa.CacR Go.Proofs.Ytphnnbbgcnilgaa.CacS
set_option linter.unusedVariables false
set_option linter.unusedSimpArgs false
set_option maxRecDepth 1000000

def lookE (l : List E) (n : Int) : Option Value := (l.find? fun e => decide (e.2.1 = n)).map fun e => .pointer (some ⟨e.1, 0, none⟩)
theorem lookE_cons (g : Nat) (k v : Int) (l : List E) : lookE ((g, k, v) :: l) = fun n => if n = k then some (.pointer (some ⟨g, 0, none⟩)) else lookE l n := by
  funext n
  unfold lookE
  by_cases h : n = k
  · subst h; simp
  · simp [h, Ne.symm h]
theorem lookE_none {l : List E} {n : Int} (h : ∀ x ∈ l, x.2.1 ≠ n) : lookE l n = none := by
  unfold lookE
  rw [List.find?_eq_none.2 (by simpa using h)]; rfl
theorem lookE_mid (A B : List E) (g : Nat) (k v : Int) (h : ∀ x ∈ A, x.2.1 ≠ k) : lookE (A ++ (g, k, v) :: B) = fun n => if n = k then some (.pointer (some ⟨g, 0, none⟩)) else lookE (A ++ B) n := by
  induction A with
  | nil => exact lookE_cons g k v B
  | cons x t ih =>
    obtain ⟨xg, xk, xv⟩ := x
    rw [List.cons_append, lookE_cons, ih (fun y hy => h y (by simp [hy])), List.cons_append, lookE_cons]
    funext n
    have := h (xg, xk, xv) (by simp)
    by_cases h1 : n = xk
    · have h2 : n ≠ k := fun e => this (h1.symm.trans e)
      simp only [h1, if_true]; rw [if_neg (fun e => this e)]
    · simp only [if_neg h1]
structure CS (ev : Value) (C : Nat) (sz : Int) (m : Nat) (hits miss : Int) (l : List E) (W : World) : Prop where
  dl : DL ev C sz m hits miss l W
  mp : imapN W .i64 m (lookE l) l.length
  nk : l.Pairwise fun a b => a.2.1 ≠ b.2.1
  kr : ∀ x ∈ l, (Lit.int .i64 x.2.1).wf = true
theorem CS.mne {ev : Value} {C : Nat} {sz : Int} {m : Nat} {hits miss : Int} {l : List E} {W : World} (h : CS ev C sz m hits miss l W) : m ≠ C ∧ ∀ x ∈ l, x.1 ≠ m := by
  obtain ⟨es, clock, hb, _⟩ := h.mp
  refine ⟨fun e => ?_, fun x hx e => ?_⟩
  · subst e; rw [h.dl.hd] at hb; cases hb
  · obtain ⟨p', n', h1⟩ := seg_mem _ _ _ h.dl.sg x hx
    rw [e, hb] at h1; cases h1
theorem nk_mid {A B : List E} {g : Nat} {k v : Int} (h : (A ++ (g, k, v) :: B).Pairwise fun a b => a.2.1 ≠ b.2.1) : (∀ x ∈ A ++ B, x.2.1 ≠ k) ∧ (A ++ B).Pairwise fun a b => a.2.1 ≠ b.2.1 := by
  refine ⟨?_, h.sublist (by simp)⟩
  rw [List.pairwise_append, List.pairwise_cons] at h
  rintro x hx
  rcases List.mem_append.1 hx with hx | hx
  · exact h.2.2 x hx (g, k, v) (by simp)
  · exact fun e => h.2.1.1 x hx e.symm
theorem nd_mid {A B : List E} {g : Nat} {k v : Int} (h : (A ++ (g, k, v) :: B).Pairwise fun a b => a.1 ≠ b.1) : ∀ x ∈ A ++ B, x.1 ≠ g := by
  rw [List.pairwise_append, List.pairwise_cons] at h
  rintro x hx
  rcases List.mem_append.1 hx with hx | hx
  · exact h.2.2 x hx (g, k, v) (by simp)
  · exact fun e => h.2.1.1 x hx e.symm
theorem lookE_front (A B : List E) (g : Nat) (k v : Int) (h : ∀ x ∈ A ++ B, x.2.1 ≠ k) : lookE ((g, k, v) :: (A ++ B)) = lookE (A ++ (g, k, v) :: B) := by
  rw [lookE_cons, lookE_mid A B g k v (fun x hx => h x (by simp [hx]))]
theorem own_front {C m g b : Nat} {A B : List E} {k v : Int} (h : own C m ((g, k, v) :: (A ++ B)) b) : own C m (A ++ (g, k, v) :: B) b := by
  rcases h with h | h | ⟨x, hx, h⟩
  · exact Or.inl h
  · exact Or.inr (Or.inl h)
  · refine Or.inr (Or.inr ⟨x, ?_, h⟩)
    simp only [List.mem_cons, List.mem_append] at hx ⊢
    rcases hx with h | h | h
    · exact Or.inr (Or.inl h)
    · exact Or.inl h
    · exact Or.inr (Or.inr h)
theorem imapN_away {q : IntKind} {b c : Nat} {f : Int → Option Value} {C : Nat} {l : List E} {W W1 : World} (h : imapN W q b f c) (a : Away C l W W1) (hC : b ≠ C) (hl : ∀ x ∈ l, x.1 ≠ b) : imapN W1 q b f c := imapN_of_heap h (a.blk b hC hl)

theorem info97 : ∃ j, Try.prog.info? 97 = some j ∧ j.size ≠ 0 := by
  have h : (Try.prog.info? 97).map (fun i => i.size) = some 4 := by kernel_rfl
  obtain ⟨j, hj, e⟩ := Option.map_eq_some_iff.1 h
  exact ⟨j, hj, by rw [e]; decide⟩
theorem eq_same (w : World) (g : Nat) : (binOp .eql 92 (.pointer (some ⟨g, 0, none⟩)) (.pointer (some ⟨g, 0, none⟩))).run Try.prog w = .ok (.bool true) w := by
  obtain ⟨j, hj, _⟩ := info97
  exact run_eql_ptr_same w _ Try.underlying92 hj
theorem eq_other {w : World} {a b : Nat} {S T : Array Value} (ha : w.heap[a]? = some (.cells S 97 (0, 0))) (hb : w.heap[b]? = some (.cells T 97 (0, 0))) (h : a ≠ b) : (binOp .eql 92 (.pointer (some ⟨a, 0, none⟩)) (.pointer (some ⟨b, 0, none⟩))).run Try.prog w = .ok (.bool false) w := by
  obtain ⟨j, hj, hs⟩ := info97
  exact run_eql_ptr_other w Try.underlying92 hj hs (fun e => h (by injection e)) ha hb
theorem neq_nilf (w : World) : (binOp .neq 90 .nilFunc .nilFunc).run Try.prog w = .ok (.bool false) w := by kernel_rfl

set_option maxHeartbeats 1000000 in
theorem move_c {ev : Value} {C m : Nat} {sz hits miss : Int} {A : List E} {g : Nat} {k v : Int} {B : List E} {w : World} (h : CS ev C sz m hits miss (A ++ (g, k, v) :: B) w) :
    Calls Try.prog 50 #[.pointer (some ⟨C, 0, none⟩), .pointer (some ⟨g, 0, none⟩)] w fun e w' => ∃ u, e = .returned u ∧ CS ev C sz m hits miss ((g, k, v) :: (A ++ B)) w' ∧ KeptB (own C m (A ++ (g, k, v) :: B)) w w' := by
  have hq : w.cell? ⟨C, 2, none⟩ = some (ptr (headO (A ++ (g, k, v) :: B) none)) := (blk_cell h.dl.hd 2).trans rfl
  cases A with
  | nil =>
    have hq2 : w.cell? ⟨C, 2, none⟩ = some (.pointer (some ⟨g, 0, none⟩)) := hq
    have HL := Aside0.mk h
    have he := eq_same w g
    clear h hq
    go_enter Try.func50, Try.ntmps50
    go_wp2
    refine bodyPost_ret (results_none rfl _ _ _) rfl ?_
    exact ⟨_, rfl, HL.out, KeptB.refl _ _⟩
  | cons x t =>
    obtain ⟨xg, xk, xv⟩ := x
    have hq2 : w.cell? ⟨C, 2, none⟩ = some (.pointer (some ⟨xg, 0, none⟩)) := hq
    have hxg : xg ≠ g := nd_mid h.dl.nd (xg, xk, xv) (by simp)
    have he : (binOp .eql 92 (.pointer (some ⟨xg, 0, none⟩)) (.pointer (some ⟨g, 0, none⟩))).run Try.prog w = .ok (.bool false) w := by
      have hs := (seg_append _ _ _ _).1 h.dl.sg
      exact eq_other hs.1.1 hs.2.1 hxg
    have HL := Aside0.mk h
    have HM := Aside0.mk h.mne
    clear h hq
    go_enter Try.func50, Try.ntmps50
    go_wp2_with (first
      | (go_at_call 53; refine (remove_c ((xg, xk, xv) :: t) B HL.out.dl).mono ?_; rintro e w1 ⟨u, rfl, h1, h2, h3⟩; have H1 := Aside0.mk h1; have H2 := Aside0.mk h2; have H3 := Aside0.mk h3; clear h1 h2 h3)
      | (go_at_call 52; refine (front_c H1.out H2.out (nd_mid HL.out.dl.nd)).mono ?_; rintro e w2 ⟨u, rfl, h1, h2⟩; have H4 := Aside0.mk h1; have H5 := Aside0.mk h2; clear h1 h2))
    go_end0
    refine ⟨_, rfl, ⟨H4.out, ?_, ?_, ?_⟩, ?_⟩
    · have n1 := nk_mid HL.out.nk
      refine (show imapN w2 .i64 m (lookE ((g, k, v) :: ((xg, xk, xv) :: t ++ B))) ((g, k, v) :: ((xg, xk, xv) :: t ++ B)).length from ?_)
      rw [lookE_front _ _ _ _ _ n1.1, show ((g, k, v) :: ((xg, xk, xv) :: t ++ B)).length = ((xg, xk, xv) :: t ++ (g, k, v) :: B).length by simp; omega]
      exact imapN_away (imapN_away HL.out.mp H3.out HM.out.1 HM.out.2) H5.out HM.out.1 (fun y hy => HM.out.2 y (by
        simp only [List.mem_cons, List.mem_append, List.cons_append] at hy ⊢
        rcases hy with h | h | h | h <;> simp [h]))
    · have n1 := nk_mid HL.out.nk
      exact List.Pairwise.cons (fun y hy e => n1.1 y hy e.symm) n1.2
    · intro y hy
      refine HL.out.kr y ?_
      simp only [List.mem_cons, List.mem_append, List.cons_append] at hy ⊢
      rcases hy with h | h | h | h <;> simp [h]
    · exact (H3.out.kept (m := m)).trans (H5.out.kept (m := m)) (fun b _ hb => own_front hb)

set_option maxHeartbeats 1000000 in
theorem oldest_c {C m : Nat} {sz hits miss : Int} {A : List E} {g : Nat} {k v : Int} {w : World} (h : CS .nilFunc C sz m hits miss (A ++ [(g, k, v)]) w) :
    Calls Try.prog 51 #[.pointer (some ⟨C, 0, none⟩)] w fun e w' => ∃ u, e = .returned u ∧ CS .nilFunc C sz m hits miss A w' ∧ KeptB (own C m (A ++ [(g, k, v)])) w w' := by
  have q3 : w.cell? ⟨C, 3, none⟩ = some (.pointer (some ⟨g, 0, none⟩)) := by
    rw [blk_cell h.dl.hd 3, lastO_append _ _ _ _ none]; rfl
  have q4 : w.cell? ⟨C, 4, none⟩ = some .nilFunc := (blk_cell h.dl.hd 4).trans rfl
  have HL := Aside0.mk h
  have HM := Aside0.mk h.mne
  have hnf := neq_nilf w
  clear h
  go_enter Try.func51, Try.ntmps51
  go_wp2_with (go_at_call 53; refine (remove_c A [] HL.out.dl).mono ?_; rintro e w1 ⟨u, rfl, h1, h2, h3⟩; rw [List.append_nil] at h1; have H1 := Aside0.mk h1; have H2 := Aside0.mk h2; have H3 := Aside0.mk h3; have p1 : w1.cell? ⟨C, 1, none⟩ = some (.map (some m)) := (blk_cell h1.hd 1).trans rfl; have p2 : w1.cell? ⟨g, 0, none⟩ = some (.int .i64 k) := (blk_cell h2 0).trans rfl; clear h1 h2 h3)
  obtain ⟨w3, hdel, d1, d2, d3⟩ := imapN_delete (P := Try.prog) (imapN_of_heap (w' := w1.drew) (imapN_away HL.out.mp H3.out HM.out.1 HM.out.2) rfl) Try.underlying91 Try.underlying3 k (HL.out.kr (g, k, v) (by simp)) (by rw [lookE_mid A [] g k v (fun x hx => (nk_mid HL.out.nk).1 x (by simp [hx]))]; simp) #[91, 3] rfl 0
  have D1 := Aside0.mk d1
  have D2 := Aside0.mk d2
  clear d1 d2 d3
  go_still_tail 8, (by kernel_rfl)
  go_wp2
  go_end0
  have hC : w3.heap[C]? = w1.heap[C]? := D2.out.block C (Array.getElem?_eq_some_iff.1 H1.out.hd).1 (fun e => HM.out.1 (by injection e with e; exact e.symm))
  have hE : ∀ x ∈ A, w3.heap[x.1]? = w1.heap[x.1]? := fun x hx => by
    obtain ⟨p', n', hb⟩ := seg_mem _ _ _ H1.out.sg x hx
    exact D2.out.block x.1 (Array.getElem?_eq_some_iff.1 hb).1 (fun e => HM.out.2 x (by simp [hx]) (by injection e))
  have hn := nk_mid HL.out.nk
  refine ⟨_, rfl, ⟨⟨hC.trans H1.out.hd, seg_frame _ _ _ H1.out.sg hE, H1.out.nd⟩, ?_, by simpa using hn.2, fun x hx => HL.out.kr x (by simp [hx])⟩, ((H3.out.kept (m := m)).drew).grown D2.out (fun k e => Or.inl (by cases e; exact Or.inr (Or.inl rfl)))⟩
  have e : (fun n => if n = k then none else lookE (A ++ [(g, k, v)]) n) = lookE A := by
    funext n
    rw [lookE_mid A [] g k v (fun x hx => hn.1 x (by simp [hx])), List.append_nil]
    by_cases h : n = k
    · subst h; rw [if_pos rfl, lookE_none (fun x hx => hn.1 x (by simp [hx]))]
    · simp only [if_neg h]
  have := D1.out
  rw [e] at this
  simpa using this
end Go.Proofs.Ytphnnbbgcnilgaa.CacT
