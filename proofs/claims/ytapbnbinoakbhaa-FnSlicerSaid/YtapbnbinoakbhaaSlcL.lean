/-
  Proved: the law FnSlicer returns true. Conditions: none beyond the arguments' being readable.
-/
import Derived.Test.YtapbnbinoakbhaaSlcT
import Derived.Test.YtapbnbinoakbhaaGESx
namespace Go.Proofs.Ytapbnbinoakbhaa.SlcL
open Go.RowKit Go.Proofs.YtapbnbinoakbhaaW.PrintWords Go.Proofs.YtapbnbinoakbhaaW.PrintLast Go.Proofs.Ytapbnbinoakbhaa.Common Go.Proofs.Ytapbnbinoakbhaa.SlcQ Go.Proofs.Ytapbnbinoakbhaa.SlcF Go.Proofs.Ytapbnbinoakbhaa.SlcA Go.Proofs.Ytapbnbinoakbhaa.SlcM Go.Proofs.Ytapbnbinoakbhaa.SlcS Go.Proofs.Ytapbnbinoakbhaa.SlcV Go.Proofs.Ytapbnbinoakbhaa.SlcE Go.Proofs.Ytapbnbinoakbhaa.GES Go.Proofs.Ytapbnbinoakbhaa.SlcT
set_option linter.unusedVariables false
set_option linter.unusedSimpArgs false
set_option maxRecDepth 1000000

theorem among_loop (vs : List Int) (x : Int) (hl : vs.length ≤ 4611686018427387904) (d : Nat) : ∀ i : Nat, i + d = vs.length → Ev (fun k => spec_TwAmong.l0 k vs x (i : Int)) (decide (x ∈ vs.drop i)) := by
  induction d with
  | zero =>
    intro i hi
    refine Ev.step (f := fun _ => some (decide (x ∈ vs.drop i))) (fun k => ?_) (Ev.now _)
    simp only [spec_TwAmong.l0]
    rw [if_neg (by omega), List.drop_eq_nil_of_le (by omega)]
    simp
  | succ d ih =>
    intro i hi
    have hlt : i < vs.length := by omega
    by_cases h : vs[i] = x
    · refine Ev.step (f := fun _ => some (decide (x ∈ vs.drop i))) (fun k => ?_) (Ev.now _)
      simp only [spec_TwAmong.l0]
      rw [if_pos (by omega), if_pos (by omega), rd_at _ _ hlt, if_pos h, List.drop_eq_getElem_cons hlt, h]
      simp
    · have e : decide (x ∈ vs.drop i) = decide (x ∈ vs.drop (i + 1)) := by
        rw [List.drop_eq_getElem_cons hlt]
        have : ¬ x = vs[i] := fun e => h e.symm
        exact decide_eq_decide.2 (by rw [List.mem_cons]; exact ⟨fun h => h.resolve_left this, Or.inr⟩)
      rw [e]
      refine Ev.step (f := fun k => spec_TwAmong.l0 k vs x ((i + 1 : Nat) : Int)) (fun k => ?_) (ih (i + 1) (by omega))
      simp only [spec_TwAmong.l0]
      rw [if_pos (by omega), if_pos (by omega), rd_at _ _ hlt, if_neg h, w64 _ (by omega) (by omega)]
      rfl
theorem among_ev (vs : List Int) (x : Int) (hl : vs.length ≤ 4611686018427387904) : Ev (fun k => spec_TwAmong.f k vs x) (decide (x ∈ vs)) := among_loop vs x hl vs.length 0 (by omega)
theorem keep_loop (xs vs : List Int) (d0 n : Int) (hv : vs.length ≤ 4611686018427387904) (hl : xs.length ≤ 4294967296) (d : Nat) : ∀ i : Nat, i + d = xs.length → Ev (fun k => spec_TwSliced.l0 k (keepIn vs (xs.take i)) xs (xs.length : Int) (i : Int) d0 n vs) (keepIn vs xs) := by
  induction d with
  | zero =>
    intro i hi
    refine Ev.step (f := fun _ => some (keepIn vs xs)) (fun k => ?_) (Ev.now _)
    simp only [spec_TwSliced.l0]
    rw [if_neg (by omega), List.take_of_length_le (by omega)]
  | succ d ih =>
    intro i hi
    have hlt : i < xs.length := by omega
    have hkl := keep_len vs xs i
    have h1 := ih (i + 1) (by omega)
    have hst := keep_step vs xs i hlt
    have hA := among_ev vs xs[i] hv
    refine Ev.step (f := fun k => (spec_TwAmong.f k vs xs[i]).bind fun t => if t = true then spec_TwSliced.l0 k (keepIn vs (xs.take i) ++ [xs[i]]) xs (xs.length : Int) ((i + 1 : Nat) : Int) d0 n vs else spec_TwSliced.l0 k (keepIn vs (xs.take i)) xs (xs.length : Int) ((i + 1 : Nat) : Int) d0 n vs) (fun k => ?_) (Ev.bind hA ?_)
    · simp only [spec_TwSliced.l0]
      rw [if_pos (by omega), if_pos (by omega), if_pos (by omega), rd_at _ _ hlt, w64 _ (by omega) (by omega), if_pos (by omega)]
      rfl
    · by_cases hin : xs[i] ∈ vs
      · rw [if_pos hin] at hst
        rw [hst] at h1
        simpa [hin] using h1
      · rw [if_neg hin, List.append_nil] at hst
        rw [hst] at h1
        simpa [hin] using h1
theorem plus_loop (xs vs : List Int) (d0 n : Int) (hl : xs.length ≤ 4294967296) (d : Nat) : ∀ i : Nat, i + d = xs.length → Ev (fun k => spec_TwSliced.l1 k (plusN n (xs.take i)) xs (xs.length : Int) (i : Int) d0 n vs) (plusN n xs) := by
  induction d with
  | zero =>
    intro i hi
    refine Ev.step (f := fun _ => some (plusN n xs)) (fun k => ?_) (Ev.now _)
    simp only [spec_TwSliced.l1]
    rw [if_neg (by omega), List.take_of_length_le (by omega)]
  | succ d ih =>
    intro i hi
    have hlt : i < xs.length := by omega
    have hkl := plus_len n xs i
    have h1 := ih (i + 1) (by omega)
    rw [plus_step n xs i hlt] at h1
    refine Ev.step (f := fun k => spec_TwSliced.l1 k (plusN n (xs.take i) ++ [wrap64 (xs[i] + n)]) xs (xs.length : Int) ((i + 1 : Nat) : Int) d0 n vs) (fun k => ?_) h1
    simp only [spec_TwSliced.l1]
    rw [if_pos (by omega), if_pos (by omega), if_pos (by omega), rd_at _ _ hlt, w64 ((i : Int) + 1) (by omega) (by omega), if_pos (by omega)]
    rfl
theorem sliced_ev (xs : List Int) (d n : Int) (vs : List Int) (hl : xs.length ≤ 4294967296) (hv : vs.length ≤ 4294967296) : Ev (fun k => spec_TwSliced.f k xs d n vs) (sl xs d n vs) := by
  unfold sl
  by_cases h0 : d = 0
  · rw [if_pos h0]
    refine ⟨0, fun k _ => ?_⟩
    show spec_TwSliced.f k xs d n vs = _
    unfold spec_TwSliced.f
    rw [if_pos h0, if_pos (by simp; omega)]
    show (if (([] : List Int) ++ xs).length + vs.length < 17592186044416 then some (([] ++ xs) ++ vs) else none) = _
    rw [if_pos (by simp; omega)]
    rfl
  · rw [if_neg h0]
    by_cases h1 : d = 1
    · rw [if_pos h1]
      refine ⟨0, fun k _ => ?_⟩
      show spec_TwSliced.f k xs d n vs = _
      unfold spec_TwSliced.f
      rw [if_neg h0, if_pos h1, if_pos (by simp; omega)]
      show (if (([] : List Int) ++ vs).length + xs.length < 17592186044416 then some (([] ++ vs) ++ xs) else none) = _
      rw [if_pos (by simp; omega)]
      rfl
    · rw [if_neg h1]
      by_cases h3 : d = 3
      · rw [if_pos h3]
        refine Ev.congr (fun k => ?_) (keep_loop xs vs d n (by omega) hl xs.length 0 (by omega))
        unfold spec_TwSliced.f
        rw [if_neg h0, if_neg h1, if_pos h3]
        rfl
      · rw [if_neg h3]
        by_cases h4 : d = 4
        · rw [if_pos h4]
          refine Ev.congr (fun k => ?_) (plus_loop xs vs d n hl xs.length 0 (by omega))
          unfold spec_TwSliced.f
          rw [if_neg h0, if_neg h1, if_neg h3, if_pos h4]
          rfl
        · rw [if_neg h4]
          refine ⟨0, fun k _ => ?_⟩
          show spec_TwSliced.f k xs d n vs = _
          unfold spec_TwSliced.f
          rw [if_neg h0, if_neg h1, if_neg h3, if_neg h4]
theorem ints_loop (xs : List Int) (hl : xs.length ≤ 4294967296) (d : Nat) : ∀ i : Nat, i + d = xs.length → Ev (fun k => spec_TwInts.l0 k xs xs (i : Int)) true := by
  induction d with
  | zero =>
    intro i hi
    refine Ev.step (f := fun _ => some true) (fun k => ?_) (Ev.now _)
    simp only [spec_TwInts.l0]
    rw [if_neg (by omega)]
  | succ d ih =>
    intro i hi
    refine Ev.step (f := fun k => spec_TwInts.l0 k xs xs ((i + 1 : Nat) : Int)) (fun k => ?_) (ih (i + 1) (by omega))
    simp only [spec_TwInts.l0]
    rw [if_pos (by omega), if_pos (by omega), if_pos (by omega), if_pos trivial, w64 _ (by omega) (by omega)]
    rfl
theorem ints_ev (xs : List Int) (hl : xs.length ≤ 4294967296) : Ev (fun k => spec_TwInts.f k xs xs) true := by
  refine Ev.congr (fun k => ?_) (ints_loop xs hl xs.length 0 (by omega))
  unfold spec_TwInts.f
  rw [if_pos rfl]
  rfl
theorem fits_loop (l : List S53) (hl : l.length ≤ 4294967296) (d : Nat) : ∀ i : Nat, i + d = l.length → ∃ b, Ev (fun k => laws_zzFits29.l0 k l (l.length : Int) (i : Int)) b ∧ (b = true → ∀ o ∈ l.drop i, o.f2.length ≤ 2147483647) := by
  induction d with
  | zero =>
    intro i hi
    refine ⟨true, Ev.step (f := fun _ => some true) (fun k => ?_) (Ev.now true), fun _ s hs => ?_⟩
    · simp only [laws_zzFits29.l0]
      rw [if_neg (by omega)]
    · rw [List.drop_eq_nil_of_le (by omega)] at hs; simp at hs
  | succ d ih =>
    intro i hi
    have hlt : i < l.length := by omega
    by_cases hb : (l[i].f2.length : Int) > 2147483647
    · refine ⟨false, Ev.step (f := fun _ => some false) (fun k => ?_) (Ev.now false), fun h => by cases h⟩
      simp only [laws_zzFits29.l0, laws_zzFits30.f]
      rw [if_pos (by omega), if_pos (by omega), if_pos (by omega), rd53 l i hlt, if_pos hb]
      rfl
    · obtain ⟨b, hb', hs⟩ := ih (i + 1) (by omega)
      refine ⟨b, Ev.step (f := fun k => laws_zzFits29.l0 k l (l.length : Int) ((i + 1 : Nat) : Int)) (fun k => ?_) hb', fun h s hm => ?_⟩
      · simp only [laws_zzFits29.l0, laws_zzFits30.f]
        rw [if_pos (by omega), if_pos (by omega), if_pos (by omega), rd53 l i hlt, if_neg hb, w64 _ (by omega) (by omega)]
        rfl
      · rw [List.drop_eq_getElem_cons hlt] at hm
        rcases List.mem_cons.1 hm with rfl | hm
        · omega
        · exact hs h s hm
theorem fits_ev (l : List S53) : ∃ b, Ev (fun k => laws_zzFits29.f k l) b ∧ (b = true → l.length ≤ 2147483647 ∧ ∀ o ∈ l, o.f2.length ≤ 2147483647) := by
  by_cases h : (l.length : Int) > 2147483647
  · exact ⟨false, ⟨0, fun k _ => by show laws_zzFits29.f k l = _; unfold laws_zzFits29.f; rw [if_pos h]⟩, fun h => by cases h⟩
  · obtain ⟨b, hb, hs⟩ := fits_loop l (by omega) l.length 0 (by omega)
    refine ⟨b, Ev.congr (fun k => ?_) hb, fun hbt => ⟨by omega, by simpa using hs hbt⟩⟩
    show laws_zzFits29.f k l = _
    unfold laws_zzFits29.f
    rw [if_neg h]
    rfl
end Go.Proofs.Ytapbnbinoakbhaa.SlcL
