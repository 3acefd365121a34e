/-
  Proved: two runs of one script from one state give the same, but for the order of what a Purge tells. Conditions: the state's keys are different, few calls.
-/
import Derived.Test.YtphnnbbgcnilgaaCacM
namespace Go.Proofs.Ytphnnbbgcnilgaa.CacO
open Go Go.RowKit Go.Proofs.YtphnnbbgcnilgaaW.PrintWords Go.Proofs.Ytphnnbbgcnilgaa.Common Go.Proofs.Ytphnnbbgcnilgaa.CacU Go.Proofs.Ytphnnbbgcnilgaa.CacV Go.Proofs.Ytphnnbbgcnilgaa.CacW Go.Proofs.Ytphnnbbgcnilgaa.CacH Go.Proofs.Ytphnnbbgcnilgaa.CacF Go.Proofs.Ytphnnbbgcnilgaa.CacY Go.Proofs.Ytphnnbbgcnilgaa.GFnCachePurge
set_option linter.unusedVariables false
set_option linter.unusedSimpArgs false
abbrev z42 : S42 := ⟨false, 0, 0, 0, false, []⟩
def KD (l : List KV) : Prop := l.Pairwise fun a b => a.1 ≠ b.1
theorem KD.nodup {l : List KV} (h : KD l) : l.Nodup := h.imp (fun h e => h (by rw [e]))
theorem KD_put {l : List KV} {k v : Int} (h : KD l) : KD ((k, v) :: without l k) := by
  refine List.Pairwise.cons (fun y hy e => ?_) (h.sublist List.filter_sublist)
  have := (List.mem_filter.1 hy).2
  simp [← e] at this
theorem KD_new {l : List KV} {k v : Int} (h : KD l) (hk : ¬ hasK l k = true) : KD ((k, v) :: l) :=
  List.Pairwise.cons (fun y hy e => hk (by simp only [hasK, List.any_eq_true]; exact ⟨y, hy, by simpa using e.symm⟩)) h
theorem KD_addF {n : Int} {l : List KV} {k v : Int} (h : KD l) : KD (addF n l k v).1 := by
  unfold addF
  split
  · exact KD_put h
  · rename_i hk
    split
    · have h1 : KD ((k, v) :: l) := KD_new h hk
      exact h1.sublist ((List.dropLast_sublist l).cons_cons (k, v))
    · exact KD_new h hk
theorem KD_getF {l : List KV} {k : Int} (h : KD l) : KD (getF l k).1 := by
  unfold getF
  split
  · exact KD_put h
  · exact h
theorem KD_step {n : Int} {s s' : St} {o : S33} {x : S42} (h : stepR n s o s' x) (hk : KD s.l) : KD s'.l := by
  by_cases h5 : o.f0 = 5
  · obtain ⟨rfl, _⟩ := h.1 h5
    exact List.Pairwise.nil
  · have e1 : s' = (CacY.stepG n s o).1 := congrArg Prod.fst (h.2 h5)
    subst e1
    unfold CacY.stepG
    split
    · exact KD_addF hk
    split
    · exact KD_getF hk
    split
    · split
      · exact KD_getF hk
      · exact KD_addF hk
    split
    · exact hk.sublist List.filter_sublist
    split
    · exact hk.sublist (List.dropLast_sublist _)
    split
    · exact hk
    split
    · exact hk
    · exact hk
theorem addG_le (n : Int) (l : List KV) (k : Int) : (addG n l k).length ≤ 1 := by
  unfold addG
  split
  · simp
  · split
    · cases l.getLast? <;> simp
    · simp
/-- what a call's result is like, but a Purge's -/
theorem stepG_out (n : Int) (s : St) (o : S33) (h0 : 0 ≤ s.hits) (h1 : 0 ≤ s.miss) (hs : s.hits + s.miss ≤ 400) : Ieee.double.order (CacY.stepG n s o).2.f3 (CacY.stepG n s o).2.f3 = some .eq ∧ (CacY.stepG n s o).2.f5.length ≤ 1000 := by
  have hz : Ieee.double.order 0 0 = some .eq := order_self 0 (by decide)
  have ha := addG_le n s.l o.f1
  unfold CacY.stepG
  split
  · exact ⟨hz, by dsimp only; omega⟩
  split
  · exact ⟨hz, by simp⟩
  split
  · split
    · exact ⟨hz, by simp⟩
    · exact ⟨hz, by dsimp only; omega⟩
  split
  · exact ⟨hz, by simp⟩
  split
  · refine ⟨hz, ?_⟩
    dsimp only [lastG]
    cases s.l.getLast? <;> simp
  split
  · exact ⟨hz, by simp⟩
  split
  · exact ⟨hz, by simp⟩
  · exact ⟨rate_eq _ _ h0 h1 hs, by simp⟩
def Pair (d : Int) (x y : S42) : Prop :=
  (d = 5 ∧ ∃ G H : List (Int × Int), x = ⟨false, 0, 0, 0, false, G⟩ ∧ y = ⟨false, 0, 0, 0, false, H⟩ ∧ G.Perm H ∧ H.Nodup ∧ H.length ≤ 1000) ∨ (d ≠ 5 ∧ x = y ∧ Ieee.double.order y.f3 y.f3 = some .eq ∧ y.f5.length ≤ 1000)
theorem RR_pair (n : Int) : ∀ (ops : List S33) (s : St) (X Y : List S42) (sX sY : St), RR n ops s X sX → RR n ops s Y sY → KD s.l → 0 ≤ s.hits → 0 ≤ s.miss → s.hits + s.miss + ops.length ≤ 400 → s.l.length + ops.length ≤ 400 → ∀ i (h : i < ops.length), Pair ops[i].f0 (X.getD i z42) (Y.getD i z42)
  | [], s, X, Y, sX, sY, _, _, _, _, _, _, _ => fun i h => absurd h (Nat.not_lt_zero i)
  | o :: t, s, X, Y, sX, sY, hX, hY, hk, h0, h1, hs, hll => by
    obtain ⟨s1, x, rx, a1, rfl, a2⟩ := hX
    obtain ⟨s2, y, ry, b1, rfl, b2⟩ := hY
    rw [List.length_cons] at hs hll
    have e12 : s1 = s2 := by
      by_cases h5 : o.f0 = 5
      · rw [(a1.1 h5).1, (b1.1 h5).1]
      · exact (congrArg Prod.fst (a1.2 h5)).trans (congrArg Prod.fst (b1.2 h5)).symm
    subst e12
    obtain ⟨c1, c2, c3, c4⟩ := stepR_bnd a1 h0 h1
    intro i hi
    cases i with
    | zero =>
      show Pair o.f0 x y
      by_cases h5 : o.f0 = 5
      · obtain ⟨_, G, hG, rfl⟩ := a1.1 h5
        obtain ⟨_, H, hH, rfl⟩ := b1.1 h5
        exact Or.inl ⟨h5, G, H, rfl, rfl, hG.trans hH.symm, hH.symm.nodup hk.nodup, by rw [hH.length_eq]; omega⟩
      · have ex := congrArg Prod.snd (a1.2 h5)
        have ey := congrArg Prod.snd (b1.2 h5)
        dsimp only at ex ey
        have := stepG_out n s o h0 h1 (by omega)
        exact Or.inr ⟨h5, ex.trans ey.symm, by rw [ey]; exact this.1, by rw [ey]; exact this.2⟩
    | succ j =>
      exact RR_pair n t s1 rx ry sX sY a2 b2 (KD_step a1 hk) c1 c2 (by omega) (by omega) j (by simpa using hi)
/-- the two runs of the law -/
theorem law_pair {n : Int} {l1 l2 : List S33} {X Y : List S42} {sX sY : St} (hX : RR n (l1 ++ [⟨5, 0, 0⟩] ++ l2) ⟨[], 0, 0⟩ X sX) (hY : RR n l2 ⟨[], 0, 0⟩ Y sY) (hl : l1.length + l2.length ≤ 300) :
    X.length = l1.length + 1 + l2.length ∧ Y.length = l2.length ∧ ∀ i (h : i < l2.length), Pair l2[i].f0 (X.getD (l1.length + 1 + i) z42) (Y.getD i z42) := by
  obtain ⟨o1, o2, s1, rfl, h1, h2⟩ := (RR_append n _ _ _ _ _).1 hX
  obtain ⟨p1, p2, s2, rfl, h3, h4⟩ := (RR_append n _ _ _ _ _).1 h1
  obtain ⟨s3, x, rest, h5, rfl, rfl, rfl⟩ := h4
  obtain ⟨rfl, _⟩ := h5.1 rfl
  have e1 := RR_len n _ _ _ _ h3
  have e2 := RR_len n _ _ _ _ h2
  have e3 := RR_len n _ _ _ _ hY
  refine ⟨by simp [e1, e2]; omega, e3, fun i hi => ?_⟩
  have := RR_pair n l2 ⟨[], 0, 0⟩ o2 Y sX sY h2 hY List.Pairwise.nil (Int.le_refl _) (Int.le_refl _) (by simp; omega) (by simp; omega) i hi
  have eg : (p1 ++ [x] ++ o2).getD (l1.length + 1 + i) z42 = o2.getD i z42 := by
    rw [List.getD_eq_getElem?_getD, List.getD_eq_getElem?_getD, List.getElem?_append_right (by simp [e1])]
    congr 2
    simp [e1]
  rw [eg]
  exact this
end Go.Proofs.Ytphnnbbgcnilgaa.CacO
