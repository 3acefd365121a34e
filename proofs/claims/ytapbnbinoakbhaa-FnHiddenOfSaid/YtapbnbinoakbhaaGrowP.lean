/-
  Proved: plain facts on columns that grow in turn. Conditions: none.
-/
import Derived.Test.YtapbnbinoakbhaaCommon
import Derived.Test.YtapbnbinoakbhaaWMore
namespace Go.Proofs.Ytapbnbinoakbhaa.GrowP
open Go.RowKit Go.Proofs.YtapbnbinoakbhaaW.PrintWords Go.Proofs.Ytapbnbinoakbhaa.Common
set_option linter.unusedVariables false

/-- q rounds, and the first j columns once more -/
def L (q j : Nat) (l : List Int) : List Int := l.mapIdx fun i x => x + q + (if i < j then 1 else 0)
def grow (l : List Int) (p : Nat) : List Int := L (p / l.length) (p % l.length) l
theorem L_len (q j : Nat) (l : List Int) : (L q j l).length = l.length := by simp [L]
theorem L_at (q j : Nat) (l : List Int) (i : Nat) (h : i < l.length) : (L q j l)[i]'(by rw [L_len]; exact h) = l[i] + q + (if i < j then 1 else 0) := by simp [L]
theorem L_zero (l : List Int) : L 0 0 l = l := by
  refine List.ext_getElem (by rw [L_len]) fun i h1 h2 => ?_
  rw [L_at 0 0 l i h2]
  simp
theorem L_round (q : Nat) (l : List Int) : L q l.length l = L (q + 1) 0 l := by
  refine List.ext_getElem (by rw [L_len, L_len]) fun i h1 h2 => ?_
  rw [L_len] at h1
  rw [L_at _ _ l i h1, L_at _ _ l i h1, if_pos h1, if_neg (by omega)]
  omega
theorem L_set (q j : Nat) (l : List Int) (h : j < l.length) : (L q j l).set j (l[j] + q + 1) = L q (j + 1) l := by
  refine List.ext_getElem (by rw [List.length_set, L_len, L_len]) fun i h1 h2 => ?_
  rw [L_len] at h2
  rw [List.getElem_set]
  have e0 := L_at q (j + 1) l i h2
  by_cases e : j = i
  · subst e
    simp only [if_true]
    rw [e0, if_pos (by omega)]
  · rw [if_neg e, L_at _ _ l i h2, e0]
    by_cases e2 : i < j
    · rw [if_pos e2, if_pos (by omega)]
    · rw [if_neg e2, if_neg (by omega)]
theorem grow_of (l : List Int) (q j p : Nat) (hn : 0 < l.length) (hj : j ≤ l.length) (h : q * l.length + j = p) : grow l p = L q j l := by
  unfold grow
  by_cases e : j = l.length
  · have hp : p = (q + 1) * l.length := by rw [← h, e, Nat.add_mul, Nat.one_mul]
    rw [hp, Nat.mul_div_cancel _ hn, Nat.mul_mod_left, e, L_round]
  · have hj2 : j < l.length := by omega
    have h1 : p / l.length = q := by rw [← h, Nat.add_comm, Nat.add_mul_div_right _ _ hn, Nat.div_eq_of_lt hj2, Nat.zero_add]
    have h2 : p % l.length = j := by rw [← h, Nat.add_comm, Nat.add_mul_mod_self_right, Nat.mod_eq_of_lt hj2]
    rw [h1, h2]
end Go.Proofs.Ytapbnbinoakbhaa.GrowP
