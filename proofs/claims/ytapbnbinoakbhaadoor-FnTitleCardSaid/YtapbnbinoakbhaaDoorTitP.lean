/-
  Proved: plain facts on titles: what trimming and capitals do to texts of printable ASCII. Conditions: bytes from 32 to 126.
-/
import Derived.Test.YtapbnbinoakbhaaDoorCommon
import Derived.Lib.Space
import Derived.Lib.Case
namespace Go.Proofs.YtapbnbinoakbhaaDoor.TitP
open Go.RowKit Go.Proofs.YtapbnbinoakbhaaDoorW.PrintWords Go.Proofs.YtapbnbinoakbhaaDoor.Common
set_option linter.unusedVariables false

/-- underscores to blanks -/
def us (l : List UInt8) : List UInt8 := l.map fun c => if c = 95 then 32 else c
def fr (l : List UInt8) : List UInt8 := l.dropWhile (fun c => c == 32)
def trimS (l : List UInt8) : List UInt8 := (fr (fr l).reverse).reverse
def Pr (l : List UInt8) : Prop := ∀ c ∈ l, 32 ≤ c.toNat ∧ c.toNat ≤ 126
theorem us_len (l : List UInt8) : (us l).length = l.length := by simp [us]
theorem us_pr {l : List UInt8} (h : Pr l) : Pr (us l) := by
  intro c hc
  obtain ⟨d, hd, rfl⟩ := List.mem_map.1 hc
  have := h d hd
  show 32 ≤ (if d = 95 then (32 : UInt8) else d).toNat ∧ (if d = 95 then (32 : UInt8) else d).toNat ≤ 126
  split
  · decide
  · exact this
theorem isSp_eq (c : UInt8) (h : 32 ≤ c.toNat) : Lib.isSp c = (c == 32) := by
  have h9 : ∀ n : Nat, n < 32 → (c == UInt8.ofNat n) = false := by
    intro n hn
    rw [beq_eq_false_iff_ne]
    intro e
    subst e
    have : (UInt8.ofNat n).toNat = n := by simp; omega
    omega
  have a := h9 9 (by omega); have b := h9 10 (by omega); have d := h9 11 (by omega); have e := h9 12 (by omega); have f := h9 13 (by omega)
  unfold Lib.isSp
  simp only [show UInt8.ofNat 9 = 9 from rfl, show UInt8.ofNat 10 = 10 from rfl, show UInt8.ofNat 11 = 11 from rfl, show UInt8.ofNat 12 = 12 from rfl, show UInt8.ofNat 13 = 13 from rfl] at a b d e f
  rw [a, b, d, e, f]
  simp
theorem dw_congr (p q : UInt8 → Bool) : ∀ l : List UInt8, (∀ c ∈ l, p c = q c) → l.dropWhile p = l.dropWhile q
  | [], _ => rfl
  | c :: t, h => by
    rw [List.dropWhile_cons, List.dropWhile_cons, h c (by simp), dw_congr p q t (fun d hd => h d (by simp [hd]))]
theorem dw_mem (p : UInt8 → Bool) : ∀ (l : List UInt8) (c : UInt8), c ∈ l.dropWhile p → c ∈ l := fun l c h => (List.dropWhile_sublist p).mem h
theorem trim_eq (l : List UInt8) (h : ∀ c ∈ l, 32 ≤ c.toNat) : Lib.trimSpace l = trimS l := by
  unfold Lib.trimSpace trimS fr
  rw [dw_congr Lib.isSp (fun c => c == 32) l (fun c hc => isSp_eq c (h c hc))]
  rw [dw_congr Lib.isSp (fun c => c == 32) (l.dropWhile (fun c => c == 32)).reverse (fun c hc => isSp_eq c (h c (dw_mem _ _ _ (List.mem_reverse.1 hc))))]
theorem trim_mem (l : List UInt8) (c : UInt8) (h : c ∈ trimS l) : c ∈ l := by
  unfold trimS fr at h
  exact dw_mem _ _ _ (List.mem_reverse.1 (dw_mem _ _ _ (List.mem_reverse.1 h)))
theorem trim_len (l : List UInt8) : (trimS l).length ≤ l.length := by
  unfold trimS fr
  have h1 := (List.dropWhile_sublist (fun c : UInt8 => c == 32) (l := l)).length_le
  have h2 := (List.dropWhile_sublist (fun c : UInt8 => c == 32) (l := (l.dropWhile (fun c => c == 32)).reverse)).length_le
  rw [List.length_reverse] at h2 ⊢
  omega
theorem up_eq (c : UInt8) : Lib.upperB c = if 97 ≤ c.toNat ∧ c.toNat ≤ 122 then c - 32 else c := by
  unfold Lib.upperB Lib.isLowerB
  have e : ((97 : UInt8) ≤ c && c ≤ 122) = decide (97 ≤ c.toNat ∧ c.toNat ≤ 122) := by
    rw [Bool.decide_and]
    rfl
  simp only [e, decide_eq_true_eq]
theorem up_len (l : List UInt8) : (Lib.toUpperA l).length = l.length := by simp [Lib.toUpperA]
/-- a row turned by f up to i -/
def px (f : UInt8 → UInt8) (i : Nat) (l : List UInt8) : List UInt8 := (l.take i).map f ++ l.drop i
theorem px_zero (f : UInt8 → UInt8) (l : List UInt8) : px f 0 l = l := by simp [px]
theorem px_all (f : UInt8 → UInt8) (i : Nat) (l : List UInt8) (h : l.length ≤ i) : px f i l = l.map f := by
  unfold px
  rw [List.take_of_length_le h, List.drop_eq_nil_of_le h, List.append_nil]
theorem px_len (f : UInt8 → UInt8) (i : Nat) (l : List UInt8) : (px f i l).length = l.length := by
  unfold px
  rw [List.length_append, List.length_map, List.length_take, List.length_drop]
  omega
theorem px_at (f : UInt8 → UInt8) (i : Nat) (l : List UInt8) (h : i < l.length) : (px f i l)[i]'(by rw [px_len]; exact h) = l[i] := by
  unfold px
  rw [List.getElem_append_right (by rw [List.length_map, List.length_take]; omega)]
  simp only [List.length_map, List.length_take, List.getElem_drop]
  congr 1
  omega
theorem px_set (f : UInt8 → UInt8) (i : Nat) (l : List UInt8) (h : i < l.length) (c : UInt8) (hc : f l[i] = c) : (px f i l).set i c = px f (i + 1) l := by
  unfold px
  have hl : ((l.take i).map f).length = i := by rw [List.length_map, List.length_take]; omega
  rw [List.set_append_right _ _ (by omega), hl, Nat.sub_self, List.take_succ_eq_append_getElem h, List.drop_eq_getElem_cons h, List.map_append, List.set_cons_zero, List.append_assoc, List.map_cons, hc]
  rfl
theorem px_skip (f : UInt8 → UInt8) (i : Nat) (l : List UInt8) (h : i < l.length) (hc : f l[i] = l[i]) : px f i l = px f (i + 1) l := by
  unfold px
  rw [List.take_succ_eq_append_getElem h, List.drop_eq_getElem_cons h, List.map_append]
  simp [hc]
def f95 (c : UInt8) : UInt8 := if c = 95 then 32 else c
theorem us_px (l : List UInt8) : us l = l.map f95 := rfl
end Go.Proofs.YtapbnbinoakbhaaDoor.TitP
