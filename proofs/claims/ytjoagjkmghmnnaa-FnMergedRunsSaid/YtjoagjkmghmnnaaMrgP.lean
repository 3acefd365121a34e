/-
  Proved: the plain law of merged columns: what is known of the runs when the columns are gone through. Conditions: none.
-/
import Derived.Test.YtjoagjkmghmnnaaIMap
namespace Go.Proofs.Ytjoagjkmghmnnaa.MrgP
open Go Go.Proofs.Ytjoagjkmghmnnaa.IMap
set_option linter.unusedVariables false

structure Run (cells : List ByteArray) (bound : Int) (p : Nat × Nat) : Prop where
  lt : p.1 < p.2
  len : p.2 < cells.length
  low : (p.1 : Int) < bound
  same : ∀ j, p.1 ≤ j → j < p.2 → cells[j]? = cells[j + 1]?
  left : 0 < p.1 → cells[p.1 - 1]? ≠ cells[p.1]?
  right : p.2 + 1 < cells.length → cells[p.2 + 1]? ≠ cells[p.2]?
structure Inv (cells : List ByteArray) (bound : Int) (c : Nat) (L : List (Nat × Nat)) : Prop where
  runs : ∀ p ∈ L, Run cells bound p ∧ p.2 < c
  pair : L.Pairwise (fun p q => p.2 < q.1)
  head : c < cells.length → 0 < c → cells[c - 1]? ≠ cells[c]?
  all : ∀ j, j < c → (j : Int) < bound → j + 1 < cells.length → cells[j]? = cells[j + 1]? → ∃ p ∈ L, p.1 ≤ j ∧ j < p.2
theorem inv_start (cells : List ByteArray) (bound : Int) : Inv cells bound 0 [] :=
  ⟨fun p h => by simp at h, List.Pairwise.nil, fun _ h => by omega, fun j h => by omega⟩
/-- no run at c -/
theorem inv_none {cells : List ByteArray} {bound : Int} {c : Nat} {L : List (Nat × Nat)} (h : Inv cells bound c L) (hn : c + 1 < cells.length → cells[c]? ≠ cells[c + 1]?) : Inv cells bound (c + 1) L := by
  refine ⟨fun p hp => ⟨(h.runs p hp).1, by have := (h.runs p hp).2; omega⟩, h.pair, fun hl _ => ?_, fun j hj hb hl he => ?_⟩
  · rw [Nat.add_sub_cancel]; exact hn hl
  · by_cases hjc : j < c
    · exact h.all j hjc hb hl he
    · obtain rfl : j = c := by omega
      exact absurd he (hn hl)
/-- a run from c to e -/
theorem inv_run {cells : List ByteArray} {bound : Int} {c e : Nat} {L : List (Nat × Nat)} (h : Inv cells bound c L) (hb : (c : Int) < bound) (hce : c < e) (hel : e < cells.length)
    (hs : ∀ j, c ≤ j → j < e → cells[j]? = cells[j + 1]?) (hr : e + 1 < cells.length → cells[e + 1]? ≠ cells[e]?) : Inv cells bound (e + 1) (L ++ [(c, e)]) := by
  refine ⟨fun p hp => ?_, ?_, fun hl _ => ?_, fun j hj hb2 hl he => ?_⟩
  · rcases List.mem_append.1 hp with hp | hp
    · exact ⟨(h.runs p hp).1, by have := (h.runs p hp).2; omega⟩
    · simp at hp
      subst hp
      exact ⟨⟨hce, hel, hb, hs, fun h0 => h.head (by omega) h0, hr⟩, by simp⟩
  · rw [List.pairwise_append]
    refine ⟨h.pair, by simp, fun p hp q hq => ?_⟩
    simp at hq
    subst hq
    exact (h.runs p hp).2
  · rw [Nat.add_sub_cancel]
    exact fun e2 => hr hl e2.symm
  · by_cases hjc : j < c
    · obtain ⟨p, hp, h1, h2⟩ := h.all j hjc hb2 hl he
      exact ⟨p, by simp [hp], h1, h2⟩
    · by_cases hje : j < e
      · exact ⟨(c, e), by simp, by simp; omega, hje⟩
      · obtain rfl : j = e := by omega
        exact absurd he.symm (hr hl)
/-- what the map holds -/
def look (L : List (Nat × Nat)) (n : Int) : Option Value := (L.find? fun p => decide ((p.1 : Int) = n)).map fun p => .int .i64 (p.2 : Int)
theorem look_put {cells : List ByteArray} {bound : Int} {c e : Nat} {L : List (Nat × Nat)} (h : Inv cells bound c L) : (fun m : Int => if m = (c : Int) then some (Value.int .i64 (e : Int)) else look L m) = look (L ++ [(c, e)]) := by
  funext m
  unfold look
  rw [List.find?_append]
  by_cases hm : m = (c : Int)
  · subst hm
    have hn : L.find? (fun p => decide ((p.1 : Int) = (c : Int))) = none := by
      rw [List.find?_eq_none]
      intro p hp
      have h1 := (h.runs p hp).1.lt
      have h2 := (h.runs p hp).2
      simp
      omega
    rw [if_pos rfl, hn]
    simp
  · rw [if_neg hm]
    cases hf : L.find? (fun p => decide ((p.1 : Int) = m)) with
    | some p => simp
    | none => simp; exact fun e2 => hm e2.symm
/-! ### the list of runs -/
def upto (L : List (Nat × Nat)) (i : Nat) : List (Nat × Nat) := L.filter fun p => decide (p.1 < i)
theorem upto_step {L : List (Nat × Nat)} (hp : L.Pairwise (fun p q => p.2 < q.1)) (hl : ∀ p ∈ L, p.1 < p.2) (i : Nat) :
    (look L (i : Int) = none ∧ upto L (i + 1) = upto L i) ∨ ∃ e : Nat, look L (i : Int) = some (.int .i64 (e : Int)) ∧ upto L (i + 1) = upto L i ++ [(i, e)] := by
  induction L with
  | nil => exact .inl ⟨rfl, rfl⟩
  | cons p L ih =>
    obtain ⟨h1, h2⟩ := List.pairwise_cons.1 hp
    have h3 := hl p (by simp)
    by_cases hpi : p.1 = i
    · refine .inr ⟨p.2, ?_, ?_⟩
      · unfold look; simp [hpi]
      · have hrest : ∀ j, j ≤ i + 1 → upto L j = [] := fun j hj => by
          unfold upto
          rw [List.filter_eq_nil_iff]
          intro q hq
          have := h1 q hq
          simp
          omega
        have e1 : upto (p :: L) (i + 1) = p :: upto L (i + 1) := by unfold upto; rw [List.filter_cons_of_pos (by simp; omega)]
        have e2 : upto (p :: L) i = upto L i := by unfold upto; rw [List.filter_cons_of_neg (by simp; omega)]
        rw [e1, e2, hrest _ (Nat.le_refl _), hrest i (by omega), ← hpi]
        rfl
    · have hlk : look (p :: L) (i : Int) = look L (i : Int) := by
        unfold look
        rw [List.find?_cons_of_neg (by simp; omega)]
      by_cases hlt : p.1 < i
      · have e1 : ∀ j, i ≤ j → upto (p :: L) j = p :: upto L j := fun j hj => by unfold upto; rw [List.filter_cons_of_pos (by simp; omega)]
        rcases ih h2 (fun q hq => hl q (by simp [hq])) with ⟨a, b⟩ | ⟨e, a, b⟩
        · exact .inl ⟨hlk.trans a, by rw [e1 _ (by omega), e1 _ (Nat.le_refl _), b]⟩
        · exact .inr ⟨e, hlk.trans a, by rw [e1 _ (by omega), e1 _ (Nat.le_refl _), b]; rfl⟩
      · have e1 : ∀ j, j ≤ i + 1 → upto (p :: L) j = upto L j := fun j hj => by unfold upto; rw [List.filter_cons_of_neg (by simp; omega)]
        rcases ih h2 (fun q hq => hl q (by simp [hq])) with ⟨a, b⟩ | ⟨e, a, b⟩
        · exact .inl ⟨hlk.trans a, by rw [e1 _ (Nat.le_refl _), e1 _ (by omega), b]⟩
        · exact .inr ⟨e, hlk.trans a, by rw [e1 _ (Nat.le_refl _), e1 _ (by omega), b]⟩
theorem upto_all {cells : List ByteArray} {bound : Int} {c : Nat} {L : List (Nat × Nat)} (h : Inv cells bound c L) : upto L cells.length = L := by
  unfold upto
  rw [List.filter_eq_self]
  intro p hp
  have := (h.runs p hp).1
  have h1 := this.lt
  have h2 := this.len
  simp
  omega
/-- each run as two numbers -/
def flat (L : List (Nat × Nat)) : List Value := L.flatMap fun p => [.int .i64 (p.1 : Int), .int .i64 (p.2 : Int)]
theorem flat_len (L : List (Nat × Nat)) : (flat L).length = L.length * 2 := by
  induction L with
  | nil => rfl
  | cons p L ih =>
    have e : flat (p :: L) = [.int .i64 (p.1 : Int), .int .i64 (p.2 : Int)] ++ flat L := rfl
    rw [e, List.length_append, ih]
    simp; omega
theorem flat_app (A B : List (Nat × Nat)) : flat (A ++ B) = flat A ++ flat B := by simp [flat]
theorem flat_at : ∀ (L : List (Nat × Nat)) (i : Nat) (p : Nat × Nat), L[i]? = some p → (flat L)[2 * i]? = some (.int .i64 (p.1 : Int)) ∧ (flat L)[2 * i + 1]? = some (.int .i64 (p.2 : Int))
  | [], i, p, h => by simp at h
  | q :: L, 0, p, h => by
    simp at h
    subst h
    exact ⟨rfl, rfl⟩
  | q :: L, i + 1, p, h => by
    have ih := flat_at L i p (by simpa using h)
    have e : flat (q :: L) = .int .i64 (q.1 : Int) :: .int .i64 (q.2 : Int) :: flat L := rfl
    rw [e, show 2 * (i + 1) = (2 * i) + 1 + 1 by omega, show 2 * i + 1 + 1 + 1 = (2 * i + 1) + 1 + 1 by omega]
    exact ih
theorem upto_len (L : List (Nat × Nat)) (i : Nat) : (upto L i).length ≤ L.length := List.length_filter_le ..
theorem runs_len {cells : List ByteArray} {bound : Int} {c : Nat} {L : List (Nat × Nat)} (h : Inv cells bound c L) : L.length ≤ cells.length := by
  have key : ∀ (L : List (Nat × Nat)) (m : Nat), L.Pairwise (fun p q => p.2 < q.1) → (∀ p ∈ L, p.1 < p.2 ∧ m ≤ p.1 ∧ p.2 < cells.length) → L.length + m ≤ cells.length ∨ L = [] := by
    intro L
    induction L with
    | nil => intro m _ _; exact .inr rfl
    | cons p L ih =>
      intro m hp hm
      obtain ⟨h1, h2⟩ := List.pairwise_cons.1 hp
      obtain ⟨a, b, d⟩ := hm p (by simp)
      rcases ih (p.2 + 1) h2 (fun q hq => ⟨(hm q (by simp [hq])).1, by have := h1 q hq; omega, (hm q (by simp [hq])).2.2⟩) with hh | hh
      · left; simp only [List.length_cons]; omega
      · left; subst hh; simp; omega
  rcases key L 0 h.pair (fun p hp => ⟨(h.runs p hp).1.lt, by omega, (h.runs p hp).1.len⟩) with hh | hh
  · omega
  · subst hh; simp
end Go.Proofs.Ytjoagjkmghmnnaa.MrgP
