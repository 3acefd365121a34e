/-
  Proved: the plain law behind Rows.FnMovesSaid, over numbers and lists alone. Conditions: none beyond the statement's own.
-/
import Derived.Test.YtkfkhafmgndgaaaRRPureMoves
namespace Go.Proofs.YtkfkhafmgndgaaaRR.PureFnMoves
set_option linter.unusedVariables false
set_option linter.unusedSimpArgs false
open Go.RowKit Go.Proofs.YtkfkhafmgndgaaaRRW.PrintWords Go.Proofs.YtkfkhafmgndgaaaRR.Read Go.Proofs.YtkfkhafmgndgaaaRR.GM Go.Proofs.YtkfkhafmgndgaaaRR.GivenMoves Go.Proofs.YtkfkhafmgndgaaaRR.Common Go.Proofs.YtkfkhafmgndgaaaRR.Pager Go.Proofs.YtkfkhafmgndgaaaRR.PureMoves

theorem step (K : Nat) (pages : List ByteArray) (hq : pages.length ≤ 50) (l : List S50) (hl : l.length ≤ 200) (out : List S52) (i k : Nat) (hi : i < l.length) (ho : out.length ≤ 200) (hk : k < pages.length) (hm : 0 ≤ l[i].f0 ∧ l[i].f0 ≤ 4) (hg : good50 l[i]) :
    spec_Moves.l0 (K + 1) pages l out (k : Int) (i : Int) = spec_Moves.l0 K pages l (out ++ [mvPage pages k l[i]]) ((pgAt pages.length k l[i].f0 l[i].f1 : Nat) : Int) ((i + 1 : Nat) : Int) := by
  have hr := range64 hg.2
  have hlt := pgAt_lt pages.length k hk l[i].f0 l[i].f1
  have hw : wrap64 ((i : Int) + 1) = ((i + 1 : Nat) : Int) := by rw [w64 _ (by omega) (by omega)]; rfl
  have hw1 : wrap64 ((k : Int) + 1) = (k : Int) + 1 := w64 _ (by omega) (by omega)
  have hw2 : wrap64 ((k : Int) - 1) = (k : Int) - 1 := w64 _ (by omega) (by omega)
  have hw3 : wrap64 ((pages.length : Int) - 1) = (pages.length : Int) - 1 := w64 _ (by omega) (by omega)
  have c1 : (i : Int) < (l.length : Int) := by omega
  have c2 : (0 : Int) ≤ (i : Int) := by omega
  have c3 : out.length < 5864062014805 := by omega
  have d04 : ¬ (0 : Int) = 4 := by decide
  have d14 : ¬ (1 : Int) = 4 := by decide
  have d24 : ¬ (2 : Int) = 4 := by decide
  have d34 : ¬ (3 : Int) = 4 := by decide
  have d10 : ¬ (1 : Int) = 0 := by decide
  have d20 : ¬ (2 : Int) = 0 := by decide
  have d21 : ¬ (2 : Int) = 1 := by decide
  have d30 : ¬ (3 : Int) = 0 := by decide
  have d31 : ¬ (3 : Int) = 1 := by decide
  have d32 : ¬ (3 : Int) = 2 := by decide
  have d40 : ¬ (4 : Int) = 0 := by decide
  have d41 : ¬ (4 : Int) = 1 := by decide
  have d42 : ¬ (4 : Int) = 2 := by decide
  rcases (show l[i].f0 = 0 ∨ l[i].f0 = 1 ∨ l[i].f0 = 2 ∨ l[i].f0 = 3 ∨ l[i].f0 = 4 by omega) with e | e | e | e | e
  · have hat : mn ((k : Int) + 1) ((pages.length : Int) - 1) = ((pgAt pages.length k l[i].f0 l[i].f1 : Nat) : Int) := by
      rw [e]; unfold mn pgAt; rw [if_pos rfl]; split <;> split <;> omega
    simp only [spec_Moves.l0, rdT50 l i hi, e, if_pos c1, if_pos c2, if_pos trivial, if_true, if_neg d04, hw, hw1, hw3]
    rw [e] at hat hlt
    rw [hat, if_pos (by omega), if_pos (by omega), if_pos c3]
    unfold mvPage
    rw [e, if_neg d04]
    rfl
  · have hat : mx ((k : Int) - 1) 0 = ((pgAt pages.length k l[i].f0 l[i].f1 : Nat) : Int) := by
      rw [e]; unfold mx pgAt; rw [if_neg d10, if_pos rfl]; split <;> omega
    simp only [spec_Moves.l0, rdT50 l i hi, e, if_pos c1, if_pos c2, if_true, if_neg d10, if_neg d14, hw, hw2]
    rw [e] at hat hlt
    rw [hat, if_pos (by omega), if_pos (by omega), if_pos c3]
    unfold mvPage
    rw [e, if_neg d14]
    rfl
  · by_cases cp : l[i].f1 < 1
    · have hat : (0 : Int) = ((pgAt pages.length k l[i].f0 l[i].f1 : Nat) : Int) := by
        rw [e]; unfold pgAt; rw [if_neg d20, if_neg d21, if_pos rfl, if_pos cp]; rfl
      simp only [spec_Moves.l0, rdT50 l i hi, e, if_pos c1, if_pos c2, if_true, if_neg d20, if_neg d21, if_neg d24, if_pos cp, hw]
      rw [e] at hat hlt
      rw [if_pos (by omega), if_pos c3]
      unfold mvPage pg
      rw [e, if_neg d24, ← hat]
    · have hw4 : wrap64 (l[i].f1 - 1) = l[i].f1 - 1 := w64 _ (by omega) (by omega)
      have hat : mx 0 (mn (l[i].f1 - 1) ((pages.length : Int) - 1)) = ((pgAt pages.length k l[i].f0 l[i].f1 : Nat) : Int) := by
        rw [e]; unfold mx mn pgAt; rw [if_neg d20, if_neg d21, if_pos rfl, if_neg cp]; split <;> split <;> split <;> omega
      simp only [spec_Moves.l0, rdT50 l i hi, e, if_pos c1, if_pos c2, if_true, if_neg d20, if_neg d21, if_neg d24, if_neg cp, hw, hw3, hw4]
      rw [e] at hat hlt
      rw [hat, if_pos (by omega), if_pos (by omega), if_pos c3]
      unfold mvPage
      rw [e, if_neg d24]
      rfl
  · have hat : (k : Int) = ((pgAt pages.length k l[i].f0 l[i].f1 : Nat) : Int) := by
      rw [e]; unfold pgAt; rw [if_neg d30, if_neg d31, if_neg d32]
    simp only [spec_Moves.l0, rdT50 l i hi, e, if_pos c1, if_pos c2, if_neg d30, if_neg d31, if_neg d32, if_neg d34, hw]
    rw [e] at hat hlt
    rw [if_pos (by omega), if_pos (by omega), if_pos c3]
    unfold mvPage pg
    rw [e, if_neg d34, ← hat]
  · have hat : (k : Int) = ((pgAt pages.length k l[i].f0 l[i].f1 : Nat) : Int) := by
      rw [e]; unfold pgAt; rw [if_neg d40, if_neg d41, if_neg d42]
    simp only [spec_Moves.l0, rdT50 l i hi, e, if_pos c1, if_pos c2, if_neg d40, if_neg d41, if_neg d42, if_true, hw, hw1]
    rw [e] at hat
    rw [if_pos c3]
    unfold mvPage
    rw [e, if_pos rfl, ← hat]
theorem moves_loop (pages : List ByteArray) (hq : pages.length ≤ 50) (l : List S50) (hl : l.length ≤ 200) (hr : ∀ m ∈ l, 0 ≤ m.f0 ∧ m.f0 ≤ 4) (hg : ∀ m ∈ l, good50 m) (d : Nat) : ∀ (i k : Nat) (out : List S52), i + d = l.length → out.length = i → k < pages.length →
    Ev (fun K => spec_Moves.l0 K pages l out (k : Int) (i : Int)) (out ++ mvAll pages (l.drop i) k) := by
  induction d with
  | zero =>
    intro i k out hi ho hk
    rw [List.drop_eq_nil_of_le (by omega), mvAll, List.append_nil]
    refine Ev.step (f := fun _ => some out) (fun K => ?_) (Ev.now out)
    simp only [spec_Moves.l0]
    rw [if_neg (by omega)]
  | succ d ih =>
    intro i k out hi ho hk
    have hlt : i < l.length := by omega
    have h := ih (i + 1) (pgAt pages.length k l[i].f0 l[i].f1) (out ++ [mvPage pages k l[i]]) (by omega) (by simp [ho]) (pgAt_lt _ _ hk _ _)
    rw [List.drop_eq_getElem_cons hlt, mvAll, List.append_cons]
    exact Ev.step (fun K => step K pages hq l hl out i k hlt (by omega) hk (hr _ (List.getElem_mem hlt)) (hg _ (List.getElem_mem hlt))) h
theorem same_loop (l : List S52) (hl : l.length ≤ 300) (d : Nat) : ∀ i : Nat, i + d = l.length → Ev (fun k => spec_SamePages.l0 k l l (i : Int)) true := by
  induction d with
  | zero =>
    intro i hi
    refine Ev.step (f := fun _ => some true) (fun k => ?_) (Ev.now true)
    simp only [spec_SamePages.l0]
    rw [if_neg (by omega)]
  | succ d ih =>
    intro i hi
    refine Ev.step (f := fun k => spec_SamePages.l0 k l l ((i + 1 : Nat) : Int)) (fun k => ?_) (ih (i + 1) (by omega))
    simp only [spec_SamePages.l0, beq_self_eq_true, Bool.not_true, Bool.or_false, Bool.false_eq_true, if_false]
    rw [if_pos (by omega), if_pos (by omega), if_pos (by omega), w64 _ (by omega) (by omega)]
    rfl
theorem pure (l0 : List ByteArray) (hg0 : (Goods (fun s => s.size ≤ maxLen)) l0) (l1 : List S50) (hg1 : (Goods (good50)) l1) : ∃ k, laws_FnMoves.f k l0 l1 = some true := by
  refine Ev.rounds (g := fun k => laws_FnMoves.f k l0 l1) ?_
  have t0 : Ev (fun k => laws_FnMoves.j0 k l0 l1 true) true := Ev.step (f := fun _ => some true) (fun k => by simp only [laws_FnMoves.j0, if_true]) (Ev.now true)
  have t1 : Ev (fun k => laws_FnMoves.j1 k l0 l1 true) true := Ev.step (f := fun _ => some true) (fun k => by simp only [laws_FnMoves.j1, if_true]) (Ev.now true)
  unfold laws_FnMoves.f
  obtain ⟨b, hb, hs⟩ := fits l0
  refine Ev.bind hb ?_
  cases b with
  | false => simpa using t0
  | true =>
    obtain ⟨hl0, hs0⟩ := hs rfl
    simp only [if_true]
    by_cases c0 : (l1.length : Int) > 2147483647
    · rw [decide_eq_true c0]; exact t0
    · rw [decide_eq_false c0]
      refine Ev.step (fun k => by simp only [laws_FnMoves.j0]; rfl) ?_
      simp only [Bool.false_eq_true, if_false]
      by_cases c1 : (l0.length : Int) = 0
      · simp only [if_pos c1]; exact t1
      · simp only [if_neg c1]
        by_cases c2 : (l0.length : Int) > 50
        · simp only [if_pos c2]; exact t1
        · simp only [if_neg c2]
          by_cases c3 : (l1.length : Int) > 200
          · simp only [if_pos c3]; exact t1
          · simp only [if_neg c3]
            obtain ⟨b1, hb1, _⟩ := texts l0 hl0 hs0
            refine Ev.bind hb1 ?_
            cases b1 with
            | false => simpa using t1
            | true =>
              simp only [if_true]
              obtain ⟨b2, hb2, hr⟩ := right l1 (by omega)
              refine Ev.bind hb2 ?_
              cases b2 with
              | false => exact t1
              | true =>
                have hr := hr rfl
                refine Ev.step (fun k => by simp only [laws_FnMoves.j1]; rfl) ?_
                simp only [Bool.not_true, Bool.false_eq_true, if_false]
                rw [moves_some l0 (by omega) hl0 l1 (by omega) hr hg1]
                simp only [Option.bind_some]
                have hm := moves_loop l0 (by omega) l1 (by omega) hr hg1 l1.length 0 0 [] (by omega) rfl (by omega)
                rw [List.drop_zero, List.nil_append] at hm
                refine Ev.bind (a := mvAll l0 l1 0) (Ev.congr (fun k => by simp only [spec_Moves.f]; rfl) hm) ?_
                have hsame := same_loop (mvAll l0 l1 0) (by rw [mvAll_length]; omega) (mvAll l0 l1 0).length 0 (by omega)
                refine Ev.bind (a := true) (Ev.congr (fun k => ?_) hsame) (Ev.now true)
                simp only [spec_SamePages.f, if_true]
                rfl
end Go.Proofs.YtkfkhafmgndgaaaRR.PureFnMoves
