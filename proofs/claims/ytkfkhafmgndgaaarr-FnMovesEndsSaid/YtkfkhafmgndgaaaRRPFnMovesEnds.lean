/-
  Proved: the plain law behind Rows.FnMovesEndsSaid, over numbers and lists alone. Conditions: none beyond the statement's own.
-/
import Derived.Test.YtkfkhafmgndgaaaRRPureMoves
namespace Go.Proofs.YtkfkhafmgndgaaaRR.PureFnMovesEnds
set_option linter.unusedVariables false
set_option linter.unusedSimpArgs false
open Go.RowKit Go.Proofs.YtkfkhafmgndgaaaRRW.PrintWords Go.Proofs.YtkfkhafmgndgaaaRR.Read Go.Proofs.YtkfkhafmgndgaaaRR.GM Go.Proofs.YtkfkhafmgndgaaaRR.GivenMoves Go.Proofs.YtkfkhafmgndgaaaRR.Common Go.Proofs.YtkfkhafmgndgaaaRR.Pager Go.Proofs.YtkfkhafmgndgaaaRR.PureMoves

def endAt (n : Nat) : List S50 → Nat → Nat
  | [], k => k
  | m :: l, k => endAt n l (pgAt n k m.f0 m.f1)
theorem endAt_lt (n : Nat) : ∀ (l : List S50) (k : Nat), k < n → endAt n l k < n
  | [], k, h => h
  | m :: l, k, h => endAt_lt n l _ (pgAt_lt n k h _ _)
theorem mvAll_append (pages : List ByteArray) : ∀ (a b : List S50) (k : Nat), mvAll pages (a ++ b) k = mvAll pages a k ++ mvAll pages b (endAt pages.length a k)
  | [], b, k => rfl
  | m :: a, b, k => by rw [List.cons_append, mvAll, mvAll_append pages a b, mvAll, endAt]; rfl
theorem page4 (pages : List ByteArray) (k : Nat) (p : Int) : mvPage pages k ⟨4, p⟩ = ⟨⟨#[]⟩, (k : Int) + 1⟩ := by unfold mvPage; rw [if_pos rfl]
theorem page1 (pages : List ByteArray) (k : Nat) (p : Int) : mvPage pages k ⟨1, p⟩ = ⟨pg pages (pgAt pages.length k 1 p), 0⟩ := by
  unfold mvPage
  rw [if_neg (show ¬ (1 : Int) = 4 by decide)]
def four : List S50 := [⟨4, 0⟩, ⟨0, 0⟩, ⟨1, 0⟩, ⟨4, 0⟩]
theorem tail_at (pages : List ByteArray) (l1 : List S50) (j : Nat) (hj : j < 4) (x : S52) (hx : (mvAll pages four (endAt pages.length l1 0))[j]? = some x) : rd_T52 (mvAll pages (l1 ++ four) 0) ((l1.length + j : Nat) : Int) = x := by
  have hlen : l1.length + j < (mvAll pages (l1 ++ four) 0).length := by rw [mvAll_length]; simp [four]; omega
  rw [rdT52 _ _ hlen]
  have h : (mvAll pages (l1 ++ four) 0)[l1.length + j]? = some x := by
    rw [mvAll_append, List.getElem?_append_right (by rw [mvAll_length]; omega), mvAll_length, Nat.add_sub_cancel_left]
    exact hx
  rw [List.getElem?_eq_getElem hlen] at h
  exact Option.some.inj h
theorem core (pages : List ByteArray) (hp : 0 < pages.length) (hq : pages.length ≤ 50) (l1 : List S50) (hl : l1.length ≤ 100) : Ev (fun k => laws_FnMovesEnds.j2 k pages (mvAll pages (l1 ++ four) 0) (l1.length : Int) false) true := by
  obtain ⟨k, hk⟩ : ∃ k, k = endAt pages.length l1 0 := ⟨_, rfl⟩
  have hkl : k < pages.length := hk ▸ endAt_lt _ l1 0 hp
  have hlen : (mvAll pages (l1 ++ four) 0).length = l1.length + 4 := by rw [mvAll_length]; simp [four]
  have w3 : wrap64 ((l1.length : Int) + 3) = ((l1.length + 3 : Nat) : Int) := by rw [w64 _ (by omega) (by omega)]; omega
  have w2 : wrap64 ((l1.length : Int) + 2) = ((l1.length + 2 : Nat) : Int) := by rw [w64 _ (by omega) (by omega)]; omega
  have wp : wrap64 ((pages.length : Int) - 1) = (pages.length : Int) - 1 := w64 _ (by omega) (by omega)
  have wk : wrap64 ((k : Int) + 1 - 1) = (k : Int) := by rw [w64 _ (by omega) (by omega)]; omega
  have c1 : (0 : Int) ≤ (l1.length : Int) := by omega
  have c2 : (l1.length : Int) < ((mvAll pages (l1 ++ four) 0).length : Int) := by rw [hlen]; omega
  have c3 : (0 : Int) ≤ ((l1.length + 3 : Nat) : Int) := by omega
  have c4 : ((l1.length + 3 : Nat) : Int) < ((mvAll pages (l1 ++ four) 0).length : Int) := by rw [hlen]; omega
  have c5 : (0 : Int) ≤ ((l1.length + 2 : Nat) : Int) := by omega
  have c6 : ((l1.length + 2 : Nat) : Int) < ((mvAll pages (l1 ++ four) 0).length : Int) := by rw [hlen]; omega
  have a0 := tail_at pages l1 0 (by omega) (mvPage pages k ⟨4, 0⟩) (by rw [← hk]; rfl)
  have a2 := tail_at pages l1 2 (by omega) (mvPage pages (pgAt pages.length k 0 0) ⟨1, 0⟩) (by
    rw [← hk]
    have e : pgAt pages.length k 4 0 = k := by unfold pgAt; rw [if_neg (by decide), if_neg (by decide), if_neg (by decide)]
    simp [four, mvAll, e])
  have a3 := tail_at pages l1 3 (by omega) (mvPage pages (pgAt pages.length (pgAt pages.length k 0 0) 1 0) ⟨4, 0⟩) (by
    rw [← hk]
    have e : pgAt pages.length k 4 0 = k := by unfold pgAt; rw [if_neg (by decide), if_neg (by decide), if_neg (by decide)]
    simp [four, mvAll, e])
  have e1 : pgAt pages.length (pgAt pages.length k 0 0) 1 0 = pgAt pages.length k 0 0 - 1 := by
    rw [pgAt, if_neg (show ¬ (1 : Int) = 0 by decide), if_pos rfl]
  have e0 : pgAt pages.length k 0 0 = if k + 1 < pages.length then k + 1 else k := by rw [pgAt, if_pos rfl]
  rw [Nat.add_zero] at a0
  have b0 : (rd_T52 (mvAll pages (l1 ++ four) 0) (l1.length : Int)).f1 = (k : Int) + 1 := by rw [a0, page4]
  have b3 : (rd_T52 (mvAll pages (l1 ++ four) 0) ((l1.length + 3 : Nat) : Int)).f1 = ((pgAt pages.length k 0 0 - 1 : Nat) : Int) + 1 := by rw [a3, page4, e1]
  have b2 : (rd_T52 (mvAll pages (l1 ++ four) 0) ((l1.length + 2 : Nat) : Int)).f0 = pg pages (pgAt pages.length k 0 0 - 1) := by rw [a2, page1, e1]
  refine Ev.step (f := fun _ => some true) (fun K => ?_) (Ev.now true)
  simp only [laws_FnMovesEnds.j2, Bool.false_eq_true, if_false, w3, w2, wp, if_pos c1, if_pos c2, if_pos c3, if_pos c4, if_pos c5, if_pos c6, b0, b3, b2, wk]
  clear a0 a2 a3 b0 b2 b3 e1
  by_cases h : (k : Int) + 1 = (pages.length : Int)
  · have eq : pgAt pages.length k 0 0 = k := by rw [e0, if_neg (by omega)]
    have h2 : ((k - 1 : Nat) : Int) + 1 = mx 1 ((pages.length : Int) - 1) := by clear e0 eq; unfold mx; split <;> omega
    rw [if_pos h, eq, h2]
    simp
  · have eq : pgAt pages.length k 0 0 = k + 1 := by rw [e0, if_pos (by omega)]
    rw [if_neg h, eq, Nat.add_sub_cancel, if_pos rfl, if_pos (by omega), if_pos (by omega)]
    unfold pg
    simp
theorem pure (l0 : List ByteArray) (hg0 : (Goods (fun s => s.size ≤ maxLen)) l0) (l1 : List S50) (hg1 : (Goods (good50)) l1) : ∃ k, laws_FnMovesEnds.f k l0 l1 = some true := by
  refine Ev.rounds (g := fun k => laws_FnMovesEnds.f k l0 l1) ?_
  have t0 : Ev (fun k => laws_FnMovesEnds.j0 k l0 l1 true) true := Ev.step (f := fun _ => some true) (fun k => by simp only [laws_FnMovesEnds.j0, if_true]) (Ev.now true)
  have t1 : Ev (fun k => laws_FnMovesEnds.j1 k l0 l1 true) true := Ev.step (f := fun _ => some true) (fun k => by simp only [laws_FnMovesEnds.j1, if_true]) (Ev.now true)
  unfold laws_FnMovesEnds.f
  obtain ⟨b, hb, hs⟩ := fits l0
  refine Ev.bind hb ?_
  cases b with
  | false => simpa using t0
  | true =>
    obtain ⟨hl0, hs0⟩ := hs rfl
    simp only [if_true]
    by_cases c0 : (l1.length : Int) > 2147483647
    · rw [decide_eq_true c0]; exact t0
    · rw [decide_eq_false c0]
      refine Ev.step (fun k => by simp only [laws_FnMovesEnds.j0]; rfl) ?_
      simp only [Bool.false_eq_true, if_false]
      by_cases c1 : (l0.length : Int) = 0
      · simp only [if_pos c1]; exact t1
      · simp only [if_neg c1]
        by_cases c2 : (l0.length : Int) > 50
        · simp only [if_pos c2]; exact t1
        · simp only [if_neg c2]
          by_cases c3 : (l1.length : Int) > 100
          · simp only [if_pos c3]; exact t1
          · simp only [if_neg c3]
            obtain ⟨b1, hb1, _⟩ := texts l0 hl0 hs0
            refine Ev.bind hb1 ?_
            cases b1 with
            | false => simpa using t1
            | true =>
              simp only [if_true]
              obtain ⟨b2, hb2, hr⟩ := right l1 (by omega)
              refine Ev.bind hb2 ?_
              cases b2 with
              | false => exact t1
              | true =>
                have hr := hr rfl
                refine Ev.step (fun k => by simp only [laws_FnMovesEnds.j1]; rfl) ?_
                have hlen : (mvAll l0 (l1 ++ four) 0).length = l1.length + 4 := by rw [mvAll_length]; simp [four]
                have hm : impl_Moves.f l0 (l1 ++ [(⟨4, 0⟩ : S50), (⟨0, 0⟩ : S50), (⟨1, 0⟩ : S50), (⟨4, 0⟩ : S50)]) = some (mvAll l0 (l1 ++ four) 0) := by
                  refine moves_some l0 (by omega) hl0 _ (by simp; omega) ?_ ?_
                  · intro m hm
                    rcases List.mem_append.1 hm with h | h
                    · exact hr m h
                    · simp at h
                      rcases h with rfl | rfl | rfl | rfl <;> decide
                  · intro m hm
                    rcases List.mem_append.1 hm with h | h
                    · exact hg1 m h
                    · simp at h
                      rcases h with rfl | rfl | rfl | rfl <;> exact ⟨by decide, by decide⟩
                have w4 : wrap64 ((l1.length : Int) + 4) = (l1.length : Int) + 4 := w64 _ (by omega) (by omega)
                have w3 : wrap64 ((l1.length : Int) + 3) = ((l1.length + 3 : Nat) : Int) := by rw [w64 _ (by omega) (by omega)]; omega
                have hlt := endAt_lt l0.length l1 0 (by omega)
                have b0 : (rd_T52 (mvAll l0 (l1 ++ four) 0) (l1.length : Int)).f1 = (endAt l0.length l1 0 : Int) + 1 := by
                  have := tail_at l0 l1 0 (by omega) (mvPage l0 (endAt l0.length l1 0) ⟨4, 0⟩) rfl
                  rw [Nat.add_zero] at this
                  rw [this]; unfold mvPage; rw [if_pos rfl]
                have b3 : 1 ≤ (rd_T52 (mvAll l0 (l1 ++ four) 0) ((l1.length + 3 : Nat) : Int)).f1 := by
                  have := tail_at l0 l1 3 (by omega) _ (List.getElem?_eq_getElem (by rw [mvAll_length]; decide))
                  rw [this]
                  simp only [four, mvAll, List.getElem_cons_succ, List.getElem_cons_zero]
                  unfold mvPage; rw [if_pos rfl]
                  show (1 : Int) ≤ (_ : Int) + 1
                  omega
                simp only [Bool.not_true, Bool.false_eq_true, if_false, Option.bind_some, List.nil_append, List.length_nil, hm, w4, w3, hlen]
                have g1 : 0 + l1.length < 8796093022208 := by omega
                have g2 : l1.length + [(⟨4, 0⟩ : S50), (⟨0, 0⟩ : S50), (⟨1, 0⟩ : S50), (⟨4, 0⟩ : S50)].length < 8796093022208 := by simp; omega
                have g3 : ((l1.length + 4 : Nat) : Int) = (l1.length : Int) + 4 := by omega
                have g4 : (0 : Int) ≤ (l1.length : Int) := by omega
                have g5 : (l1.length : Int) < ((l1.length + 4 : Nat) : Int) := by omega
                have g6 : ¬ (endAt l0.length l1 0 : Int) + 1 < 1 := by omega
                have g7 : ¬ (endAt l0.length l1 0 : Int) + 1 > (l0.length : Int) := by omega
                have g8 : (0 : Int) ≤ ((l1.length + 3 : Nat) : Int) := by omega
                have g9 : ((l1.length + 3 : Nat) : Int) < ((l1.length + 4 : Nat) : Int) := by omega
                have g10 : decide ((rd_T52 (mvAll l0 (l1 ++ four) 0) ((l1.length + 3 : Nat) : Int)).f1 < 1) = false := decide_eq_false (by omega)
                simp only [if_pos g1, if_pos g2, if_pos g3, if_pos g4, if_pos g5, b0, if_neg g6, if_neg g7, if_pos g8, if_pos g9, g10]
                exact core l0 (by omega) (by omega) l1 (by omega)
end Go.Proofs.YtkfkhafmgndgaaaRR.PureFnMovesEnds
