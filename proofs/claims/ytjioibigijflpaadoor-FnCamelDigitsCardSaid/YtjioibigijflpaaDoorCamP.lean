/-
  Proved: a text of parts of lower letters and of digits in turn, grouped by these classes, gives the parts. Conditions: each theorem's own.
-/
import Derived.Test.YtjioibigijflpaaDoorCommon
namespace Go.Proofs.YtjioibigijflpaaDoor.CamP
open Go.RowKit Go.Proofs.YtjioibigijflpaaDoorW.PrintWords Go.Proofs.YtjioibigijflpaaDoor.Common
set_option linter.unusedVariables false

def okd (c : UInt8) : Prop := (97 ≤ c.toNat ∧ c.toNat ≤ 122) ∨ (48 ≤ c.toNat ∧ c.toNat ≤ 57)
def cls (c : UInt8) : Nat := if 97 ≤ c.toNat then 1 else 3
theorem cls_pos (c : UInt8) : cls c ≠ 0 := by unfold cls; split <;> decide
def lastG (gs : List (List UInt8)) : List UInt8 := gs.getD (gs.length - 1) []
def stp (st : List (List UInt8) × Nat) (c : UInt8) : List (List UInt8) × Nat := if cls c = st.2 then (st.1.set (st.1.length - 1) (lastG st.1 ++ [c]), cls c) else (st.1 ++ [[c]], cls c)
def grp (l : List UInt8) : List (List UInt8) × Nat := l.foldl stp ([], 0)
theorem grp_step (l : List UInt8) (p : Nat) (h : p < l.length) : grp (l.take (p + 1)) = stp (grp (l.take p)) l[p] := by
  unfold grp
  rw [List.take_succ_eq_append_getElem h, List.foldl_append]
  rfl
structure Inv (l : List UInt8) (st : List (List UInt8) × Nat) : Prop where
  ne : st.2 ≠ 0 → st.1 ≠ []
  gs : ∀ g ∈ st.1, g ≠ [] ∧ g.length ≤ l.length ∧ ∀ c ∈ g, okd c
  len : st.1.length ≤ l.length
theorem last_mem (gs : List (List UInt8)) (h : gs ≠ []) : lastG gs ∈ gs := by
  have hl : gs.length - 1 < gs.length := by have := List.length_pos_iff.2 h; omega
  unfold lastG
  rw [List.getD_eq_getElem?_getD, List.getElem?_eq_getElem hl]
  exact List.getElem_mem hl
theorem mem_set {gs : List (List UInt8)} {i : Nat} {x g : List UInt8} (h : g ∈ gs.set i x) : g ∈ gs ∨ g = x := by
  rcases List.mem_or_eq_of_mem_set h with h | h
  · exact .inl h
  · exact .inr h
theorem inv_stp (l : List UInt8) (c : UInt8) (hc : okd c) (st : List (List UInt8) × Nat) (h : Inv l st) : Inv (l ++ [c]) (stp st c) := by
  unfold stp
  split
  · rename_i e
    have hne := h.ne (e ▸ cls_pos c)
    refine ⟨fun _ he => hne (List.eq_nil_of_length_eq_zero (by have := congrArg List.length he; simpa using this)), fun g hg => ?_, by simp; have := h.len; omega⟩
    rcases mem_set hg with hg | rfl
    · obtain ⟨a, b, d⟩ := h.gs g hg
      exact ⟨a, by rw [List.length_append]; omega, d⟩
    · obtain ⟨a, b, d⟩ := h.gs _ (last_mem _ hne)
      refine ⟨by simp, by simp; omega, fun x hx => ?_⟩
      rcases List.mem_append.1 hx with hx | hx
      · exact d x hx
      · rw [List.mem_singleton.1 hx]; exact hc
  · refine ⟨fun _ he => by simp at he, fun g hg => ?_, by simp; have := h.len; omega⟩
    rcases List.mem_append.1 hg with hg | hg
    · obtain ⟨a, b, d⟩ := h.gs g hg
      exact ⟨a, by rw [List.length_append]; omega, d⟩
    · rw [List.mem_singleton.1 hg]
      exact ⟨by simp, by simp, fun x hx => by rw [List.mem_singleton.1 hx]; exact hc⟩
theorem inv_take (l : List UInt8) (hl : ∀ c ∈ l, okd c) : ∀ p, p ≤ l.length → Inv (l.take p) (grp (l.take p))
  | 0, _ => ⟨fun h => absurd rfl h, (fun g hg => by cases hg), Nat.le_refl _⟩
  | p + 1, h => by
    have hp : p < l.length := by omega
    rw [grp_step l p hp, List.take_succ_eq_append_getElem hp]
    exact inv_stp _ _ (hl _ (List.getElem_mem hp)) _ (inv_take l hl p (by omega))
theorem fold_same (k : Nat) : ∀ (p : List UInt8) (gs : List (List UInt8)) (q : List UInt8), (∀ c ∈ p, cls c = k) → p.foldl stp (gs ++ [q], k) = (gs ++ [q ++ p], k)
  | [], gs, q, _ => by simp
  | c :: t, gs, q, h => by
    have hc := h c (by simp)
    have e : stp (gs ++ [q], k) c = (gs ++ [q ++ [c]], k) := by
      unfold stp
      rw [if_pos hc, hc]
      simp [lastG]
    rw [List.foldl_cons, e, fold_same k t gs (q ++ [c]) (fun x hx => h x (by simp [hx]))]
    simp
theorem fold_part (k : Nat) (p : List UInt8) (hp : p ≠ []) (h : ∀ c ∈ p, cls c = k) (gs : List (List UInt8)) (j : Nat) (hj : k ≠ j) : p.foldl stp (gs, j) = (gs ++ [p], k) := by
  cases p with
  | nil => exact absurd rfl hp
  | cons c t =>
    have hc := h c (by simp)
    have e : stp (gs, j) c = (gs ++ [[c]], k) := by
      unfold stp
      rw [if_neg (by rw [hc]; exact hj), hc]
    rw [List.foldl_cons, e, fold_same k t gs [c] (fun x hx => h x (by simp [hx]))]
    rfl
def letters : List UInt8 := [97, 98, 99, 100, 101, 102, 103, 104]
def digits : List UInt8 := [49, 50, 51, 52, 53, 54, 55, 56]
def kd (i : Nat) : Nat := if i % 2 = 1 then 3 else 1
def part (i : Nat) (x : Int) : List UInt8 := (if i % 2 = 1 then digits else letters).take (1 + x % 8).toNat
theorem part_ne (i : Nat) (x : Int) : part i x ≠ [] := by
  intro e
  have h := congrArg List.length e
  unfold part digits letters at h
  split at h <;> · rw [List.length_take] at h; simp at h; omega
theorem part_mem (i : Nat) (x : Int) (c : UInt8) (h : c ∈ part i x) : c ∈ digits ++ letters := by
  have := List.mem_of_mem_take h
  split at this
  · exact List.mem_append_left _ this
  · exact List.mem_append_right _ this
theorem part_ok (i : Nat) (x : Int) (c : UInt8) (h : c ∈ part i x) : okd c := by
  have := part_mem i x c h
  unfold okd
  revert c
  have key : ∀ c ∈ digits ++ letters, (97 ≤ c.toNat ∧ c.toNat ≤ 122) ∨ (48 ≤ c.toNat ∧ c.toNat ≤ 57) := by decide
  intro c h hc
  exact key c hc
theorem part_len (i : Nat) (x : Int) : (part i x).length ≤ 8 := by
  unfold part digits letters
  split <;> · rw [List.length_take]; simp; omega
theorem part_cls (i : Nat) (x : Int) (c : UInt8) (h : c ∈ part i x) : cls c = kd i := by
  unfold part at h
  unfold kd
  have h := List.mem_of_mem_take h
  have k1 : ∀ c ∈ digits, cls c = 3 := by decide
  have k2 : ∀ c ∈ letters, cls c = 1 := by decide
  split at h
  · rename_i e; rw [if_pos e]; exact k1 c h
  · rename_i e; rw [if_neg e]; exact k2 c h
def partsTo (l : List Int) : Nat → List (List UInt8)
  | 0 => []
  | i + 1 => partsTo l i ++ [part i (l.getD i 0)]
def textTo (l : List Int) (i : Nat) : List UInt8 := (partsTo l i).flatten
theorem text_step (l : List Int) (i : Nat) : textTo l (i + 1) = textTo l i ++ part i (l.getD i 0) := by
  unfold textTo
  show (partsTo l i ++ [part i (l.getD i 0)]).flatten = _
  simp
theorem text_len (l : List Int) : ∀ i, (textTo l i).length ≤ 8 * i
  | 0 => Nat.le_refl _
  | i + 1 => by rw [text_step, List.length_append]; have := text_len l i; have := part_len i (l.getD i 0); omega
theorem text_ok (l : List Int) : ∀ i c, c ∈ textTo l i → okd c
  | 0, c, h => by cases h
  | i + 1, c, h => by
    rw [text_step] at h
    rcases List.mem_append.1 h with h | h
    · exact text_ok l i c h
    · exact part_ok _ _ _ h
theorem parts_len (l : List Int) : ∀ i, (partsTo l i).length = i
  | 0 => rfl
  | i + 1 => by
    show (partsTo l i ++ [part i (l.getD i 0)]).length = _
    rw [List.length_append, parts_len l i]; rfl
theorem grp_text (l : List Int) : ∀ i, grp (textTo l i) = (partsTo l i, if i = 0 then 0 else kd (i - 1))
  | 0 => rfl
  | i + 1 => by
    unfold grp
    rw [text_step, List.foldl_append]
    have ih := grp_text l i
    unfold grp at ih
    rw [ih, fold_part (kd i) _ (part_ne _ _) (fun c hc => part_cls _ _ _ hc)]
    · simp [partsTo]
    · split
      · unfold kd; split <;> decide
      · unfold kd
        by_cases e : i % 2 = 1
        · rw [if_pos e, if_neg (by omega)]; decide
        · rw [if_neg e, if_pos (by omega)]; decide
end Go.Proofs.YtjioibigijflpaaDoor.CamP
