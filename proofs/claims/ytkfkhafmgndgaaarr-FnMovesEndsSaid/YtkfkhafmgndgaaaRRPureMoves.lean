/-
  Proved: plain facts on the functions that laws.FnMoves and laws.FnMovesEnds reach. Conditions: as each says.
-/
import Derived.Test.YtkfkhafmgndgaaaRROpen50
import Derived.Test.YtkfkhafmgndgaaaRRGMx4
import Derived.Test.YtkfkhafmgndgaaaRRGMx5
import Derived.Test.YtkfkhafmgndgaaaRRCommon
namespace Go.Proofs.YtkfkhafmgndgaaaRR.PureMoves
set_option linter.unusedVariables false
open Go.RowKit Go.Proofs.YtkfkhafmgndgaaaRRW.PrintWords Go.Proofs.YtkfkhafmgndgaaaRR.Read Go.Proofs.YtkfkhafmgndgaaaRR.GM Go.Proofs.YtkfkhafmgndgaaaRR.GivenMoves Go.Proofs.YtkfkhafmgndgaaaRR.Common Go.Proofs.YtkfkhafmgndgaaaRR.Pager

theorem fits (l : List ByteArray) : ∃ b, Ev (fun k => laws_zzFits4.f k l) b ∧ (b = true → l.length ≤ 2147483647 ∧ ∀ s ∈ l, s.size ≤ 2147483647) :=
  fits4 laws_zzFits4.l0 (fun k x8 x9 x10 => by simp only [laws_zzFits4.l0]) laws_zzFits4.f (fun k l => by simp only [laws_zzFits4.f]) l
theorem texts (l : List ByteArray) (hl : l.length ≤ 2147483647) (hs : ∀ s ∈ l, s.size ≤ 2147483647) : ∃ b, Ev (fun k => laws_texts.f k l 5000) b ∧ (b = true → sizes l ≤ 5000) :=
  texts_ev laws_texts.l0 (fun k x0 x1 x5 x6 => by simp only [laws_texts.l0]) laws_texts.f (fun k l m => by simp only [laws_texts.f]) l 5000 (by omega) hl hs
theorem rdT50 (l : List S50) (i : Nat) (h : i < l.length) : rd_T50 l (i : Int) = l[i] := by unfold rd_T50; simp [List.getElem?_eq_getElem h]
theorem rdT52 (l : List S52) (i : Nat) (h : i < l.length) : rd_T52 l (i : Int) = l[i] := by unfold rd_T52; simp [List.getElem?_eq_getElem h]

theorem right_loop (l : List S50) (hl : l.length ≤ 2147483647) (d : Nat) : ∀ i : Nat, i + d = l.length → ∃ b, Ev (fun k => spec_MovesRight.l0 k l (i : Int)) b ∧ (b = true → ∀ m ∈ l.drop i, 0 ≤ m.f0 ∧ m.f0 ≤ 4) := by
  induction d with
  | zero =>
    intro i hi
    refine ⟨true, Ev.step (f := fun _ => some true) (fun k => ?_) (Ev.now true), fun _ m hm => ?_⟩
    · simp only [spec_MovesRight.l0]; rw [if_neg (by omega)]
    · rw [List.drop_eq_nil_of_le (by omega)] at hm; simp at hm
  | succ d ih =>
    intro i hi
    have hlt : i < l.length := by omega
    by_cases c0 : l[i].f0 < 0
    · refine ⟨false, Ev.step (f := fun _ => some false) (fun k => ?_) (Ev.now _), fun h => by cases h⟩
      simp only [spec_MovesRight.l0, rdT50 l i hlt]; rw [if_pos (by omega), if_pos (by omega), if_pos c0]
    · by_cases c1 : l[i].f0 > 4
      · refine ⟨false, Ev.step (f := fun _ => some false) (fun k => ?_) (Ev.now _), fun h => by cases h⟩
        simp only [spec_MovesRight.l0, rdT50 l i hlt]; rw [if_pos (by omega), if_pos (by omega), if_neg c0, if_pos c1]
      · obtain ⟨b, hb, hs⟩ := ih (i + 1) (by omega)
        refine ⟨b, Ev.step (f := fun k => spec_MovesRight.l0 k l ((i + 1 : Nat) : Int)) (fun k => ?_) hb, fun h m hm => ?_⟩
        · simp only [spec_MovesRight.l0, rdT50 l i hlt]; rw [if_pos (by omega), if_pos (by omega), if_neg c0, if_neg c1, w64 _ (by omega) (by omega)]; rfl
        · rw [List.drop_eq_getElem_cons hlt] at hm
          rcases List.mem_cons.1 hm with rfl | hm
          · omega
          · exact hs h m hm
theorem right (l : List S50) (hl : l.length ≤ 2147483647) : ∃ b, Ev (fun k => spec_MovesRight.f k l) b ∧ (b = true → ∀ m ∈ l, 0 ≤ m.f0 ∧ m.f0 ≤ 4) := by
  obtain ⟨b, hb, h⟩ := right_loop l hl l.length 0 (by omega)
  refine ⟨b, Ev.congr (fun k => ?_) hb, by simpa using h⟩
  simp only [spec_MovesRight.f]; rfl

theorem mvAll_length (pages : List ByteArray) : ∀ (l : List S50) (k : Nat), (mvAll pages l k).length = l.length
  | [], _ => rfl
  | m :: l, k => by rw [mvAll, List.length_cons, mvAll_length pages l, List.length_cons]
theorem range64 {x : Int} (h : (Lit.int .i64 x).wf = true) : -9223372036854775808 ≤ x ∧ x ≤ 9223372036854775807 := by
  simpa [Lit.wf, IntKind.min, IntKind.max, IntKind.signed, IntKind.bits] using h
theorem moves_some (pages : List ByteArray) (hp : 0 < pages.length) (hq : pages.length ≤ 2147483647) (l : List S50) (hl : l.length ≤ 10000) (hr : ∀ m ∈ l, 0 ≤ m.f0 ∧ m.f0 ≤ 4) (hg : ∀ m ∈ l, good50 m) : impl_Moves.f pages l = some (mvAll pages l 0) := by
  unfold impl_Moves.f
  rw [if_pos ⟨hp, by omega, by omega, fun m hm => ⟨(hr m hm).1, (hr m hm).2, range64 (hg m hm).2⟩⟩]
end Go.Proofs.YtkfkhafmgndgaaaRR.PureMoves
