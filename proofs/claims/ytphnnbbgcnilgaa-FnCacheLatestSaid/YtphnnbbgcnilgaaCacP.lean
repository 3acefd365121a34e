/-
  Proved: what a script of Adds and then of Gets gives is told by the keys that are different, from the last one on. Conditions: each theorem's own.
-/
import Derived.Test.YtphnnbbgcnilgaaCacX
namespace Go.Proofs.Ytphnnbbgcnilgaa.CacP
open Go Go.Proofs.Ytphnnbbgcnilgaa.CacU Go.Proofs.Ytphnnbbgcnilgaa.CacV Go.Proofs.Ytphnnbbgcnilgaa.CacW Go.Proofs.Ytphnnbbgcnilgaa.CacX Go.Proofs.Ytphnnbbgcnilgaa.GFnCachePurge
set_option linter.unusedVariables false
set_option linter.unusedSimpArgs false

def fnd (l : List KV) (k : Int) : Option KV := l.find? fun x => decide (x.1 = k)
theorem hasK_iff (l : List KV) (k : Int) : hasK l k = true ↔ ∃ x ∈ l, x.1 = k := by simp [hasK]
theorem hasK_no (l : List KV) (k : Int) : hasK l k = false ↔ ∀ x ∈ l, x.1 ≠ k := by simp [hasK]
theorem hasK_fnd (l : List KV) (k : Int) : hasK l k = (fnd l k).isSome := by
  cases h : fnd l k with
  | none => exact (hasK_no l k).2 (by simpa [fnd] using h)
  | some x =>
    refine (hasK_iff l k).2 ⟨x, List.mem_of_find?_eq_some h, ?_⟩
    simpa using List.find?_some h
theorem fnd_without (l : List KV) {k j : Int} (h : j ≠ k) : fnd (without l k) j = fnd l j := by
  unfold fnd without
  rw [List.find?_filter]
  congr 1
  funext x
  by_cases hx : x.1 = j
  · simp [hx, h]
  · simp [hx]
theorem fnd_getF (l : List KV) (k j : Int) : fnd (getF l k).1 j = fnd l j := by
  unfold getF
  cases h : l.find? (fun x => decide (x.1 = k)) with
  | none => rfl
  | some x =>
    have hx : x.1 = k := by simpa using List.find?_some h
    by_cases hj : j = k
    · subst hj
      have h2 : fnd l j = some x := h
      rw [h2]
      simp [fnd, ← hx]
    · have : fnd ((k, x.2) :: without l k) j = fnd (without l k) j := by
        unfold fnd; rw [List.find?_cons]; simp [Ne.symm hj]
      rw [← fnd_without l hj]
      exact this
theorem getF_out (l : List KV) (k : Int) : (getF l k).2 = (((fnd l k).map (·.2)).getD 0, hasK l k) := by
  rw [hasK_fnd]
  unfold getF fnd
  cases h : l.find? (fun x => decide (x.1 = k)) <;> rfl
/-- the first of each key -/
def ded : List KV → List KV
  | [] => []
  | x :: t => x :: without (ded t) x.1
theorem ded_has (l : List KV) (k : Int) : hasK (ded l) k = hasK l k := by
  induction l with
  | nil => rfl
  | cons x t ih =>
    by_cases h : x.1 = k
    · simp [ded, hasK, h]
    · have e1 : hasK (x :: t) k = hasK t k := by simp [hasK, h]
      have e2 : hasK (ded (x :: t)) k = hasK (without (ded t) x.1) k := by simp [ded, hasK, h]
      rw [e1, e2, ← ih, hasK_fnd, hasK_fnd, fnd_without _ (Ne.symm h)]
theorem ded_append (a b : List KV) : ded (a ++ b) = ded a ++ (ded b).filter fun y => !hasK a y.1 := by
  induction a with
  | nil =>
    rw [List.nil_append, ded, List.nil_append]
    exact (List.filter_eq_self.2 (fun y hy => rfl)).symm
  | cons x t ih =>
    rw [List.cons_append, ded, ih, ded, List.cons_append]
    congr 1
    unfold without
    rw [List.filter_append, List.filter_filter]
    congr 1
    refine List.filter_congr (fun y hy => ?_)
    simp only [hasK, List.any_cons, Bool.not_or]
    by_cases hxy : x.1 = y.1
    · simp [hxy]
    · simp [hxy, Ne.symm hxy]
theorem ded_nodup (l : List KV) : (ded l).Pairwise fun a b => a.1 ≠ b.1 := by
  induction l with
  | nil => exact List.Pairwise.nil
  | cons x t ih =>
    rw [ded]
    refine List.Pairwise.cons (fun y hy e => ?_) (ih.sublist List.filter_sublist)
    have := (List.mem_filter.1 hy).2
    simp [e] at this
/-- the list of a cache of N, one key more -/
theorem addF_take (N : Nat) (hN : 0 < N) (R : List KV) (hR : R.Pairwise fun a b => a.1 ≠ b.1) (k v : Int) : (addF (N : Int) (R.take N) k v).1 = ((k, v) :: without R k).take N := by
  obtain ⟨M, rfl⟩ : ∃ M, N = M + 1 := ⟨N - 1, by omega⟩
  rw [List.take_succ_cons]
  unfold addF
  by_cases h : hasK (R.take (M + 1)) k = true
  · rw [if_pos h]
    dsimp only
    congr 1
    obtain ⟨x, hx, rfl⟩ := (hasK_iff _ _).1 h
    obtain ⟨A, B, e⟩ := List.append_of_mem hx
    have hRe : R = A ++ x :: (B ++ R.drop (M + 1)) := by
      have := List.take_append_drop (M + 1) R
      rw [e] at this
      exact this.symm.trans (by rw [List.append_assoc, List.cons_append])
    have hA : ∀ y ∈ A, y.1 ≠ x.1 := fun y hy => by
      rw [hRe, List.pairwise_append] at hR
      exact hR.2.2 y hy x (by simp)
    have hB : ∀ y ∈ B ++ R.drop (M + 1), y.1 ≠ x.1 := fun y hy => by
      rw [hRe, List.pairwise_append, List.pairwise_cons] at hR
      exact fun e => hR.2.1.1 y hy e.symm
    have e1 : without (R.take (M + 1)) x.1 = A ++ B := by
      rw [e]
      unfold without
      rw [List.filter_append, List.filter_cons, if_neg (by simp)]
      exact congr (congrArg _ (without_none hA)) (without_none (fun y hy => hB y (by simp [hy])))
    have e2 : without R x.1 = A ++ (B ++ R.drop (M + 1)) := by
      conv => lhs; rw [hRe]
      unfold without
      rw [List.filter_append, List.filter_cons, if_neg (by simp)]
      exact congr (congrArg _ (without_none hA)) (without_none hB)
    rw [e1, e2]
    have hl : A.length + B.length + 1 ≤ M + 1 := by
      have := congrArg List.length e
      simp at this
      omega
    by_cases hd : R.length ≤ M + 1
    · rw [List.drop_eq_nil_of_le hd, List.append_nil, List.take_of_length_le (by rw [List.length_append]; omega)]
    · have hl2 : (A ++ B).length = M := by
        have := congrArg List.length e
        simp at this
        rw [List.length_append]; omega
      rw [← List.append_assoc, List.take_append_of_le_length (by omega), List.take_of_length_le (by omega)]
  · rw [if_neg h]
    have hn : ∀ y ∈ R.take (M + 1), y.1 ≠ k := (hasK_no _ _).1 (by simpa using h)
    have key : (without R k).take M = R.take M := by
      have e : without R k = R.take (M + 1) ++ without (R.drop (M + 1)) k := by
        conv => lhs; rw [← List.take_append_drop (M + 1) R]
        unfold without
        rw [List.filter_append]
        congr 1
        exact without_none hn
      by_cases hl : R.length ≤ M
      · have h1 : R.take (M + 1) = R := List.take_of_length_le (by omega)
        rw [h1] at hn
        rw [without_none hn]
      · rw [e, List.take_append_of_le_length (by rw [List.length_take]; omega), List.take_take, Nat.min_eq_left (by omega)]
    by_cases hl : M + 1 ≤ R.length
    · rw [if_pos (by rw [List.length_take]; omega)]
      dsimp only
      rw [key, List.dropLast_eq_take, List.length_take, List.take_take]
      congr 2
      omega
    · rw [if_neg (by rw [List.length_take]; omega)]
      dsimp only
      rw [key, List.take_of_length_le (by omega), List.take_of_length_le (by omega)]
theorem fnd_take_at (N : Nat) (a b : List KV) (x : KV) (h : ∀ y ∈ a, y.1 ≠ x.1) (h2 : ∀ y ∈ b, y.1 ≠ x.1) : fnd ((a ++ x :: b).take N) x.1 = if a.length < N then some x else none := by
  unfold fnd
  split
  · rename_i hl
    rw [List.take_append, List.take_of_length_le (by omega), List.find?_append, List.find?_eq_none.2 (by simpa using h)]
    obtain ⟨M, hM⟩ : ∃ M, N - a.length = M + 1 := ⟨N - a.length - 1, by omega⟩
    rw [hM, List.take_succ_cons]
    simp
  · rename_i hl
    rw [List.take_append_of_le_length (by omega)]
    exact List.find?_eq_none.2 (by simpa using fun y z hy => h (y, z) (List.mem_of_mem_take hy))
theorem hasK_take {N : Nat} {l : List KV} {k : Int} (h : hasK l k = false) : hasK (l.take N) k = false :=
  (hasK_no _ _).2 (fun x hx => (hasK_no _ _).1 h x (List.mem_of_mem_take hx))
/-! ### the keys, from the last one on -/
def kv (keys : List Int) (q : Nat) : List KV := (List.range q).map fun (i : Nat) => (keys.getD i 0, (i : Int))
def back (keys : List Int) (q i : Nat) : List KV := ded (((kv keys q).drop i).reverse)
theorem kv_len (keys : List Int) (q : Nat) : (kv keys q).length = q := by simp [kv]
theorem kv_at (keys : List Int) (q i : Nat) (h : i < q) : (kv keys q).drop i = (keys.getD i 0, (i : Int)) :: (kv keys q).drop (i + 1) := by
  rw [List.drop_eq_getElem_cons (by rw [kv_len]; exact h)]
  congr 1
  simp [kv]
theorem back_end (keys : List Int) (q : Nat) : back keys q q = [] := by
  unfold back
  rw [List.drop_eq_nil_of_le (by rw [kv_len]; omega)]; rfl
theorem back_step (keys : List Int) (q i : Nat) (h : i < q) : back keys q i = if hasK (back keys q (i + 1)) (keys.getD i 0) = true then back keys q (i + 1) else back keys q (i + 1) ++ [(keys.getD i 0, (i : Int))] := by
  unfold back
  rw [kv_at keys q i h, List.reverse_cons, ded_append, ded_has]
  have e : ded [(keys.getD i 0, (i : Int))] = [(keys.getD i 0, (i : Int))] := rfl
  rw [e]
  generalize keys.getD i 0 = k at *
  by_cases hk : hasK ((kv keys q).drop (i + 1)).reverse k = true
  · rw [if_pos hk]
    simp [hk]
  · rw [if_neg hk]
    simp [hk]
/-- what a Get finds of a key that is met the first time on the way back -/
theorem fnd_back (N : Nat) (keys : List Int) (q i : Nat) (h : i < q) (hk : ¬ hasK (back keys q (i + 1)) (keys.getD i 0) = true) :
    fnd ((back keys q 0).take N) (keys.getD i 0) = if (back keys q (i + 1)).length < N then some (keys.getD i 0, (i : Int)) else none := by
  have e : ∃ b, back keys q 0 = back keys q (i + 1) ++ (keys.getD i 0, (i : Int)) :: b ∧ ∀ y ∈ b, y.1 ≠ keys.getD i 0 := by
    have h1 : back keys q 0 = ded (((kv keys q).drop i).reverse ++ ((kv keys q).take i).reverse) := by
      unfold back
      rw [List.drop_zero, ← List.reverse_append, List.take_append_drop]
    have h2 : ded (((kv keys q).drop i).reverse) = back keys q (i + 1) ++ [(keys.getD i 0, (i : Int))] := by
      have := back_step keys q i h
      rw [if_neg hk] at this
      exact this
    refine ⟨(ded ((kv keys q).take i).reverse).filter fun y => !hasK ((kv keys q).drop i).reverse y.1, ?_, fun y hy e => ?_⟩
    · rw [h1, ded_append, h2, List.append_assoc, List.singleton_append]
    · have := (List.mem_filter.1 hy).2
      have h3 : hasK ((kv keys q).drop i).reverse y.1 = true := by
        rw [kv_at keys q i h, hasK_iff]
        exact ⟨_, by simp; exact Or.inr rfl, e.symm⟩
      rw [h3] at this
      cases this
  obtain ⟨b, e, hb⟩ := e
  rw [e]
  refine fnd_take_at N _ b (keys.getD i 0, (i : Int)) (fun y hy e => hk ((hasK_iff _ _).2 ⟨y, hy, e⟩)) hb

/-! ### the script -/
def adds (keys : List Int) (q : Nat) : List S33 := (List.range q).map fun (i : Nat) => ⟨0, keys.getD i 0, (i : Int)⟩
def gets (q : Nat) : List S33 := (List.range q).map fun (k : Nat) => ⟨1, (k : Int), 0⟩
theorem adds_succ (keys : List Int) (q : Nat) : adds keys (q + 1) = adds keys q ++ [⟨0, keys.getD q 0, (q : Int)⟩] := by unfold adds; rw [List.range_succ, List.map_append]; rfl
theorem gets_succ (q : Nat) : gets (q + 1) = gets q ++ [⟨1, (q : Int), 0⟩] := by unfold gets; rw [List.range_succ, List.map_append]; rfl
theorem adds_len (keys : List Int) (q : Nat) : (adds keys q).length = q := by simp [adds]
theorem gets_len (q : Nat) : (gets q).length = q := by simp [gets]
theorem kv_succ (keys : List Int) (q : Nat) : kv keys (q + 1) = kv keys q ++ [(keys.getD q 0, (q : Int))] := by unfold kv; rw [List.range_succ, List.map_append]; rfl
theorem after_adds (N : Nat) (hN : 0 < N) (keys : List Int) : ∀ q, (after (N : Int) ⟨[], 0, 0⟩ (adds keys q)).l = (back keys q 0).take N
  | 0 => by simp [adds, after, back, kv, ded]
  | q + 1 => by
    rw [adds_succ, (runs_snoc _ _ _ _).2]
    have e : (stepC (N : Int) (after (N : Int) ⟨[], 0, 0⟩ (adds keys q)) ⟨0, keys.getD q 0, (q : Int)⟩).1.l = (addF (N : Int) (after (N : Int) ⟨[], 0, 0⟩ (adds keys q)).l (keys.getD q 0) (q : Int)).1 := rfl
    rw [e, after_adds N hN keys q, addF_take N hN (back keys q 0) (ded_nodup _)]
    unfold back
    rw [List.drop_zero, List.drop_zero, kv_succ, List.reverse_append, List.reverse_singleton, List.singleton_append, ded]
theorem after_append (n : Int) : ∀ (a b : List S33) (s : St), after n s (a ++ b) = after n (after n s a) b ∧ runs n s (a ++ b) = runs n s a ++ runs n (after n s a) b
  | [], b, s => ⟨rfl, rfl⟩
  | x :: t, b, s => by
    obtain ⟨h1, h2⟩ := after_append n t b (stepC n s x).1
    exact ⟨by rw [List.cons_append, after, h1]; rfl, by rw [List.cons_append, runs, h2]; rfl⟩
theorem fnd_gets (n : Int) (s : St) (j : Int) : ∀ q, fnd (after n s (gets q)).l j = fnd s.l j
  | 0 => rfl
  | q + 1 => by
    rw [gets_succ, (runs_snoc _ _ _ _).2]
    have e : (stepC n (after n s (gets q)) ⟨1, (q : Int), 0⟩).1.l = (getF (after n s (gets q)).l (q : Int)).1 := rfl
    rw [e, fnd_getF, fnd_gets n s j q]
theorem runs_gets (n : Int) (s : St) : ∀ q k, k < q → (runs n s (gets q)).getD k ⟨false, 0, 0, 0, false, []⟩ = ⟨(fnd s.l (k : Int)).isSome, 0, ((fnd s.l (k : Int)).map (·.2)).getD 0, 0, false, []⟩
  | 0, k, h => by omega
  | q + 1, k, h => by
    rw [gets_succ, (runs_snoc _ _ _ _).1]
    have hl : (runs n s (gets q)).length = q := by rw [runs_len, gets_len]
    by_cases hk : k < q
    · have := runs_gets n s q k hk
      rw [List.getD_eq_getElem?_getD] at this ⊢
      rw [List.getElem?_append_left (by omega)]
      exact this
    · obtain rfl : k = q := by omega
      rw [List.getD_eq_getElem?_getD, List.getElem?_append_right (by omega), hl, Nat.sub_self]
      have e : (stepC n (after n s (gets k)) ⟨1, (k : Int), 0⟩).2 = ⟨(getF (after n s (gets k)).l (k : Int)).2.2, 0, (getF (after n s (gets k)).l (k : Int)).2.1, 0, false, []⟩ := rfl
      rw [e, getF_out, hasK_fnd, fnd_gets]
      rfl
/-- the script of the law -/
def script (keys : List Int) : List S33 := adds keys keys.length ++ gets 256
def outsF (N : Nat) (keys : List Int) : List S42 := runs (N : Int) ⟨[], 0, 0⟩ (script keys)
theorem script_len (keys : List Int) : (script keys).length = keys.length + 256 := by unfold script; rw [List.length_append, adds_len, gets_len]
theorem outs_len (N : Nat) (keys : List Int) : (outsF N keys).length = keys.length + 256 := by unfold outsF; rw [runs_len, script_len]
theorem outs_at (N : Nat) (hN : 0 < N) (keys : List Int) (k : Nat) (hk : k < 256) : (outsF N keys).getD (keys.length + k) ⟨false, 0, 0, 0, false, []⟩ = ⟨(fnd ((back keys keys.length 0).take N) (k : Int)).isSome, 0, ((fnd ((back keys keys.length 0).take N) (k : Int)).map (·.2)).getD 0, 0, false, []⟩ := by
  unfold outsF script
  rw [(after_append _ _ _ _).2, List.getD_eq_getElem?_getD, List.getElem?_append_right (by rw [runs_len, adds_len]; omega), runs_len, adds_len, show keys.length + k - keys.length = k by omega, ← List.getD_eq_getElem?_getD, runs_gets _ _ 256 k hk, after_adds N hN]
theorem script_ok (keys : List Int) (h : ∀ k ∈ keys, 0 ≤ k ∧ k < 256) : ∀ x ∈ script keys, (x.f0 = 0 ∨ x.f0 = 1) ∧ (Lit.int .i64 x.f1).wf = true := by
  intro x hx
  unfold script adds gets at hx
  rcases List.mem_append.1 hx with hx | hx
  · obtain ⟨i, hi, rfl⟩ := List.mem_map.1 hx
    have hi2 := List.mem_range.1 hi
    refine ⟨Or.inl rfl, WalkArith.wf_i64 ?_⟩
    dsimp only
    rw [List.getD_eq_getElem?_getD, List.getElem?_eq_getElem hi2, Option.getD_some]
    have := h _ (List.getElem_mem hi2)
    omega
  · obtain ⟨i, hi, rfl⟩ := List.mem_map.1 hx
    have hi2 := List.mem_range.1 hi
    exact ⟨Or.inr rfl, WalkArith.wf_i64 (by dsimp only; omega)⟩
end Go.Proofs.Ytphnnbbgcnilgaa.CacP
