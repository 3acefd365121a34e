/-
  Proved: the plain law FnGrownEven over lists. Conditions: none.
-/
import Derived.Test.YtapbnbinoakbhaaGrowP
namespace Go.Proofs.Ytapbnbinoakbhaa.GrowL
open Go.RowKit Go.Proofs.YtapbnbinoakbhaaW.PrintWords Go.Proofs.Ytapbnbinoakbhaa.Common Go.Proofs.Ytapbnbinoakbhaa.GrowP
set_option linter.unusedVariables false

def okg (l l1 : List Int) (a1 a2 : Int) : Bool := (l.all fun x => decide (0 ≤ x ∧ x ≤ 300)) && decide (l1 = [] ∧ 0 < l.length ∧ l.length ≤ 40 ∧ 0 ≤ a1 ∧ a1 ≤ 3000 ∧ 0 ≤ a2 ∧ a2 ≤ 3000)
theorem okg_iff (l l1 : List Int) (a1 a2 : Int) : okg l l1 a1 a2 = true ↔ (∀ x ∈ l, 0 ≤ x ∧ x ≤ 300) ∧ l1 = [] ∧ 0 < l.length ∧ l.length ≤ 40 ∧ 0 ≤ a1 ∧ a1 ≤ 3000 ∧ 0 ≤ a2 ∧ a2 ≤ 3000 := by
  unfold okg
  rw [Bool.and_eq_true, decide_eq_true_iff, List.all_eq_true]
  simp only [decide_eq_true_iff]
section
variable (F : Nat → List Int → Int → Int → Int → Int → Option Bool)
  (hF : ∀ k x0 x1 x2 x3 x9, F (k + 1) x0 x1 x2 x3 x9 = if x9 < (x0.length : Int) then (if 0 ≤ x9 then (if (rd x0 x9) < x2 then (some false) else (if (rd x0 x9) > x3 then (some false) else (F k x0 x1 x2 x3 (wrap64 (x9 + 1))))) else (none)) else (some (decide ((x0.length : Int) ≤ x1))))
include hF
theorem fits_loop (l : List Int) (m lo hi : Int) (hl : l.length ≤ 4611686018427387904) (d : Nat) : ∀ i : Nat, i + d = l.length → ∃ b, Ev (fun k => F k l m lo hi (i : Int)) b ∧ (b = true → (l.length : Int) ≤ m ∧ ∀ x ∈ l.drop i, lo ≤ x ∧ x ≤ hi) := by
  induction d with
  | zero =>
    intro i hi'
    refine ⟨decide ((l.length : Int) ≤ m), Ev.step (f := fun _ => some (decide ((l.length : Int) ≤ m))) (fun k => ?_) (Ev.now _), fun h => ⟨of_decide_eq_true h, fun x hx => ?_⟩⟩
    · rw [hF, if_neg (by omega)]
    · rw [List.drop_eq_nil_of_le (by omega)] at hx; simp at hx
  | succ d ih =>
    intro i hi'
    have hlt : i < l.length := by omega
    by_cases h1 : l[i] < lo
    · refine ⟨false, Ev.step (f := fun _ => some false) (fun k => ?_) (Ev.now _), fun h => by cases h⟩
      rw [hF, if_pos (by omega), if_pos (by omega), rd_at _ _ hlt, if_pos h1]
    · by_cases h2 : l[i] > hi
      · refine ⟨false, Ev.step (f := fun _ => some false) (fun k => ?_) (Ev.now _), fun h => by cases h⟩
        rw [hF, if_pos (by omega), if_pos (by omega), rd_at _ _ hlt, if_neg h1, if_pos h2]
      · obtain ⟨b, hb, h⟩ := ih (i + 1) (by omega)
        refine ⟨b, Ev.step (f := fun k => F k l m lo hi ((i + 1 : Nat) : Int)) (fun k => ?_) hb, fun hbt => ⟨(h hbt).1, fun x hx => ?_⟩⟩
        · rw [hF, if_pos (by omega), if_pos (by omega), rd_at _ _ hlt, if_neg h1, if_neg h2, w64 _ (by omega) (by omega)]
          rfl
        · rw [List.drop_eq_getElem_cons hlt] at hx
          rcases List.mem_cons.1 hx with rfl | hx
          · omega
          · exact (h hbt).2 x hx
end
theorem nums4 (q : Nat) (bi b0 : Int) (hq : q ≤ 3000) (h1 : 0 ≤ bi ∧ bi ≤ 1) (h0 : 0 ≤ b0 ∧ b0 ≤ 1) : wrap64 ((q : Int) + bi) = (q : Int) + bi ∧ wrap64 ((q : Int) + 0) = (q : Int) ∧ wrap64 ((q : Int) + b0) = (q : Int) + b0 ∧ wrap64 ((q : Int) + 1) = (q : Int) + 1 :=
  ⟨w64 _ (by omega) (by omega), by rw [w64 _ (by omega) (by omega)]; omega, w64 _ (by omega) (by omega), w64 _ (by omega) (by omega)⟩
theorem nums5 (i q a b : Nat) (bi : Int) (hi : i ≤ 40) (hq : q ≤ 3000) (ha : a ≤ 40) (h1 : 0 ≤ bi ∧ bi ≤ 1) (hb : (b : Int) = (a : Int) + bi) : wrap64 (((i * q + a : Nat) : Int) + ((q : Int) + bi)) = (((i + 1) * q + b : Nat) : Int) := by
  have h2 : i * q ≤ 40 * 3000 := Nat.mul_le_mul hi hq
  rw [Nat.add_mul, Nat.one_mul]
  obtain ⟨z, hz⟩ : ∃ z, z = i * q := ⟨_, rfl⟩
  rw [← hz] at h2 ⊢
  rw [w64 _ (by omega) (by omega)]
  omega
theorem nums7 (q : Nat) (bi b0 : Int) (h1 : 0 ≤ bi ∧ bi ≤ 1) (h0 : 0 ≤ b0 ∧ b0 ≤ 1) (h : bi ≤ b0) : ¬ (q : Int) + bi < (q : Int) ∧ ¬ (q : Int) + bi > (q : Int) + b0 ∧ ¬ (q : Int) + b0 > (q : Int) + 1 := ⟨by omega, by omega, by omega⟩
theorem nums6 (i : Nat) (h : i ≤ 1000000) : wrap64 ((i : Int) + 1) = ((i + 1 : Nat) : Int) := by rw [w64 _ (by omega) (by omega)]; rfl
section
variable (F : Nat → List Int → Int → Int → List Int → Int → Int → Option Bool)
  (hF : ∀ k x0 x1 x2 x7 x8 x9, F (k + 1) x0 x1 x2 x7 x8 x9 = if x9 < (x7.length : Int) then (if 0 ≤ x9 then (if x9 < (x0.length : Int) then (if 0 ≤ (wrap64 ((x7.length : Int) - 1)) then (if (wrap64 ((x7.length : Int) - 1)) < (x7.length : Int) then (if (wrap64 ((x7.length : Int) - 1)) < (x0.length : Int) then (if (wrap64 ((rd x7 x9) - (rd x0 x9))) < (wrap64 ((rd x7 (wrap64 ((x7.length : Int) - 1))) - (rd x0 (wrap64 ((x7.length : Int) - 1))))) then (some false) else (if 0 < (x7.length : Int) then (if 0 < (x0.length : Int) then (if (wrap64 ((rd x7 x9) - (rd x0 x9))) > (wrap64 ((rd x7 0) - (rd x0 0))) then (some false) else (if (wrap64 ((rd x7 0) - (rd x0 0))) > (wrap64 ((wrap64 ((rd x7 (wrap64 ((x7.length : Int) - 1))) - (rd x0 (wrap64 ((x7.length : Int) - 1))))) + 1)) then (some false) else (F k x0 x1 x2 x7 (wrap64 (x8 + (wrap64 ((rd x7 x9) - (rd x0 x9))))) (wrap64 (x9 + 1))))) else (none)) else (none))) else (none)) else (none)) else (none)) else (none)) else (none)) else (some (x8 == (mx 0 (wrap64 (x2 - x1))))))
include hF
theorem even_loop (l : List Int) (a1 a2 : Int) (hok : okg l [] a1 a2 = true) (d : Nat) : ∀ i : Nat, i + d = l.length → Ev (fun k => F k l a1 a2 (grow l (a2 - a1).toNat) ((i * ((a2 - a1).toNat / l.length) + min i ((a2 - a1).toNat % l.length) : Nat) : Int) (i : Int)) true := by
  obtain ⟨hx, -, hn, hn40, h1, h2, h3, h4⟩ := (okg_iff l [] a1 a2).1 hok
  obtain ⟨p, hp⟩ : ∃ p, p = (a2 - a1).toNat := ⟨_, rfl⟩
  obtain ⟨q, hq⟩ : ∃ q, q = p / l.length := ⟨_, rfl⟩
  obtain ⟨j, hj⟩ : ∃ j, j = p % l.length := ⟨_, rfl⟩
  have hjn : j < l.length := by rw [hj]; exact Nat.mod_lt _ hn
  have hdm : l.length * q + j = p := by rw [hq, hj]; exact Nat.div_add_mod _ _
  have hp3 : p ≤ 3000 := by rw [hp]; omega
  have hq3 : q ≤ 3000 := by rw [hq]; exact Nat.le_trans (Nat.div_le_self _ _) hp3
  rw [← hp, ← hq, ← hj]
  have hG : grow l p = L q j l := by unfold grow; rw [← hq, ← hj]
  rw [hG]
  have hGl : (L q j l).length = l.length := L_len _ _ _
  have hrd : ∀ t (h : t < l.length), rd (L q j l) (t : Int) - rd l (t : Int) = q + (if t < j then 1 else 0) := fun t h => by
    rw [rd_at _ _ (by rw [hGl]; exact h), rd_at _ _ h, L_at _ _ _ _ h]
    omega
  have hw : wrap64 ((l.length : Int) - 1) = ((l.length - 1 : Nat) : Int) := by rw [w64 _ (by omega) (by omega)]; omega
  have r0 := hrd 0 hn
  have rl := hrd (l.length - 1) (by omega)
  rw [if_neg (by omega)] at rl
  have r0' : rd (L q j l) 0 - rd l 0 = q + (if 0 < j then 1 else 0) := r0
  induction d with
  | zero =>
    intro i hi
    obtain rfl : i = l.length := by omega
    refine Ev.step (f := fun _ => some true) (fun k => ?_) (Ev.now _)
    rw [hF, hGl, if_neg (by omega), w64 _ (by omega) (by omega), Nat.min_eq_right (by omega), hdm]
    congr 1
    rw [beq_iff_eq]
    unfold mx
    omega
  | succ d ih =>
    intro i hi
    have hlt : i < l.length := by omega
    have ri := hrd i hlt
    have hmin : min (i + 1) j = min i j + (if i < j then 1 else 0) := by
      by_cases e : i < j
      · rw [if_pos e]; omega
      · rw [if_neg e]; omega
    have hs : (i + 1) * q = i * q + q := by rw [Nat.add_mul, Nat.one_mul]
    have hiq : i * q ≤ 40 * 3000 := Nat.mul_le_mul (by omega) hq3
    have h1' := ih (i + 1) (by omega)
    refine Ev.step (f := fun k => F k l a1 a2 (L q j l) (((i + 1) * q + min (i + 1) j : Nat) : Int) ((i + 1 : Nat) : Int)) (fun k => ?_) h1'
    obtain ⟨bi, hbi⟩ : ∃ b : Int, b = (if i < j then 1 else 0) := ⟨_, rfl⟩
    obtain ⟨b0, hb0⟩ : ∃ b : Int, b = (if 0 < j then 1 else 0) := ⟨_, rfl⟩
    rw [← hbi] at ri
    rw [← hb0] at r0'
    have hbi1 : 0 ≤ bi ∧ bi ≤ 1 := by rw [hbi]; by_cases e : i < j <;> simp [e]
    have hb01 : 0 ≤ b0 ∧ b0 ≤ 1 := by rw [hb0]; by_cases e : 0 < j <;> simp [e]
    have hle : bi ≤ b0 := by
      by_cases e : i < j
      · rw [hbi, hb0, if_pos e, if_pos (by omega)]; omega
      · rw [hbi, if_neg e]; exact hb01.1
    have hmb : ((min (i + 1) j : Nat) : Int) = ((min i j : Nat) : Int) + bi := by
      rw [hmin, hbi]
      by_cases e : i < j
      · rw [if_pos e, if_pos e]; rfl
      · rw [if_neg e, if_neg e]; rfl
    have hi40 : i ≤ 40 := Nat.le_trans (Nat.le_of_lt hlt) hn40
    obtain ⟨e1, e2, e3, e4⟩ := nums4 q bi b0 hq3 hbi1 hb01
    have e5 := nums5 i q (min i j) (min (i + 1) j) bi hi40 hq3 (Nat.le_trans (Nat.min_le_left _ _) hi40) hbi1 hmb
    have e6 := nums6 i (Nat.le_trans hi40 (by decide))
    obtain ⟨f5, f7, f8⟩ := nums7 q bi b0 hbi1 hb01 hle
    have f1 : (i : Int) < (l.length : Int) := Int.ofNat_lt.2 hlt
    have f2 : (0 : Int) ≤ (i : Int) := Int.natCast_nonneg _
    have f3 : (0 : Int) ≤ ((l.length - 1 : Nat) : Int) := Int.natCast_nonneg _
    have f4 : ((l.length - 1 : Nat) : Int) < (l.length : Int) := Int.ofNat_lt.2 (Nat.sub_lt hn Nat.one_pos)
    have f6 : (0 : Int) < (l.length : Int) := Int.ofNat_lt.2 hn
    rw [hF, hGl, hw, ri, rl, r0', e1, e2, e3, e4, e5, e6, if_pos f1, if_pos f2, if_pos f1, if_pos f3, if_pos f4, if_pos f4, if_neg f5, if_pos f6, if_pos f6, if_neg f7, if_neg f8]
end
end Go.Proofs.Ytapbnbinoakbhaa.GrowL
