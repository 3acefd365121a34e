/-
  Proved: a text put together of known texts and escape sequences stays one, with the same plain text, when whole sequences are replaced by sequences. Conditions: what is looked for begins with a sequence.
-/
import Derived.Test.YtkfkhafmgndgaaaRRDoorStripPlain
import Derived.Test.YtkfkhafmgndgaaaRRDoorRepl
namespace Go.Proofs.YtkfkhafmgndgaaaRRDoor.Seg
open Go.RowKit Go.Lib Go.Proofs.YtkfkhafmgndgaaaRRDoor.StripPlain Go.Proofs.YtkfkhafmgndgaaaRRDoor.Repl Go.Proofs.YtkfkhafmgndgaaaRRDoor.Common
set_option linter.unusedVariables false
set_option linter.unusedSimpArgs false

inductive Seg : List UInt8 → List UInt8 → Prop
  | nil : Seg [] []
  | seq (m l P : List UInt8) (hm : ∀ x ∈ m, Mid x) (h : Seg l P) : Seg (27 :: (m ++ 109 :: l)) P
  | txt (t l P : List UInt8) (ht : simpleL true t.length t = true) (hn : ∀ x ∈ t, x ≠ 27) (h : Seg l P) : Seg (t ++ l) (t ++ P)
theorem Seg.app {a P : List UInt8} (h : Seg a P) : ∀ {b Q : List UInt8}, Seg b Q → Seg (a ++ b) (P ++ Q) := by
  induction h with
  | nil => intro b Q hb; exact hb
  | seq m l P hm h ih =>
    intro b Q hb
    have := Seg.seq m (l ++ b) (P ++ Q) hm (ih hb)
    simpa using this
  | txt t l P ht hn h ih =>
    intro b Q hb
    rw [List.append_assoc, List.append_assoc]
    exact Seg.txt t (l ++ b) (P ++ Q) ht hn (ih hb)
theorem Seg.strip {l P : List UInt8} (h : Seg l P) : ∀ g, l.length ≤ g → StripPlain.stripL g l false = P := by
  induction h with
  | nil => intro g _; cases g <;> simp [StripPlain.stripL]
  | seq m l P hm h ih =>
    intro g hg
    obtain ⟨g', hg', e⟩ := strip_seq m l g hm hg
    rw [e, ih g' hg']
  | txt t l P ht hn h ih =>
    intro g hg
    obtain ⟨g', hg', e⟩ := strip_text t.length t l g ht (Nat.le_refl _) hg
    rw [e, ih g' hg']

theorem find_skip (old : List UInt8) (c : UInt8) (r : List UInt8) (ho : old = c :: r) : ∀ (t l : List UInt8), (∀ x ∈ t, x ≠ c) → findSub old (t ++ l) = (findSub old l).map (· + t.length) := by
  intro t
  induction t with
  | nil => intro l _; simp
  | cons x t ih =>
    intro l hx
    have h0 := hx x (by simp)
    rw [List.cons_append]
    rw [show findSub old (x :: (t ++ l)) = (findSub old (t ++ l)).map (· + 1) by
      rw [findSub, if_neg]
      subst ho
      simp only [List.isPrefixOf, Bool.and_eq_true, beq_iff_eq]
      rintro ⟨h, _⟩
      exact h0 h.symm]
    rw [ih l (fun y hy => hx y (by simp [hy])), Option.map_map]
    cases findSub old l with
    | none => rfl
    | some j => simp; omega
theorem repl_skip (old new : List UInt8) (c : UInt8) (r : List UInt8) (ho : old = c :: r) (n : Nat) (t l : List UInt8) (h : findSub old (t ++ l) = (findSub old l).map (· + t.length)) : replL old new n (t ++ l) = t ++ replL old new n l := by
  cases n with
  | zero => rfl
  | succ n =>
    rw [replL, replL, h]
    cases findSub old l with
    | none => rfl
    | some j =>
      simp only [Option.map_some]
      rw [show j + t.length = t.length + j by omega, List.take_length_add_append, show t.length + j + old.length = t.length + (j + old.length) by omega, List.drop_length_add_append]
      simp
theorem mid_no27 (m : List UInt8) (hm : ∀ x ∈ m, Mid x) : ∀ x ∈ m ++ [109], x ≠ (27 : UInt8) := by
  intro x hx
  rcases List.mem_append.1 hx with hx | hx
  · intro e; subst e; exact (hm _ hx).2.1 rfl
  · simp at hx; subst hx; decide
theorem seg_repl (old new r : List UInt8) (ho : old = 27 :: r) (hnew : Seg new [])
    (hpre : ∀ l P, Seg l P → old.isPrefixOf l = true → Seg (l.drop old.length) P) {l P : List UInt8} (h : Seg l P) : ∀ n, Seg (replL old new n l) P := by
  have key : ∀ (k : Nat) (l P : List UInt8), l.length ≤ k → Seg l P → ∀ n, Seg (replL old new n l) P := by
    intro k
    induction k with
    | zero =>
      intro l P hk hs n
      obtain rfl : l = [] := List.length_eq_zero_iff.1 (by omega)
      cases n with
      | zero => exact hs
      | succ n =>
        have : findSub old [] = none := by subst ho; simp [findSub]
        rw [replL, this]; exact hs
    | succ k ih =>
      intro l P hk hs n
      induction hs with
      | nil =>
        cases n with
        | zero => exact .nil
        | succ n =>
          have : findSub old [] = none := by subst ho; simp [findSub]
          rw [replL, this]; exact .nil
      | seq m l P hm h ih2 =>
        by_cases hp : old.isPrefixOf (27 :: (m ++ 109 :: l)) = true
        · cases n with
          | zero => exact .seq m l P hm h
          | succ n =>
            have hf : findSub old (27 :: (m ++ 109 :: l)) = some 0 := by rw [findSub, if_pos hp]
            have hd := hpre _ _ (.seq m l P hm h) hp
            have hlen : 0 < old.length := by subst ho; simp
            rw [replL, hf]
            simp only [List.take_zero, List.nil_append, Nat.zero_add]
            have := ih _ _ (by rw [List.length_drop]; omega) hd n
            exact hnew.app this
        · have e : findSub old (27 :: (m ++ 109 :: l)) = (findSub old l).map (· + (27 :: (m ++ [109])).length) := by
            rw [findSub, if_neg hp, show m ++ 109 :: l = (m ++ [109]) ++ l by simp, find_skip old 27 r ho (m ++ [109]) l (mid_no27 m hm), Option.map_map]
            cases findSub old l with
            | none => rfl
            | some j => simp; omega
          have e2 := repl_skip old new 27 r ho n (27 :: (m ++ [109])) l (by simpa using e)
          have e3 : 27 :: (m ++ 109 :: l) = (27 :: (m ++ [109])) ++ l := by simp
          rw [e3, e2]
          have := ih l P (by simp at hk; omega) h n
          have h4 := Seg.seq m _ P hm this
          simpa using h4
      | txt t l P ht hn h ih2 =>
        rw [repl_skip old new 27 r ho n t l (find_skip old 27 r ho t l hn)]
        exact .txt t _ P ht hn (ih2 (by simp at hk; omega))
  exact key l.length l P (Nat.le_refl _) h

/-- What begins with one whole sequence: the rest stays put together. -/
theorem seg_one {l P : List UInt8} (h : Seg l P) : ∀ (mo rest : List UInt8), (∀ x ∈ mo, Mid x) → (27 :: (mo ++ 109 :: rest)) <+: l → ∃ l', l = 27 :: (mo ++ 109 :: l') ∧ Seg l' P ∧ rest <+: l' := by
  induction h with
  | nil => intro mo rest _ hp; have := hp.length_le; simp at this
  | seq m l P hm h ih =>
    intro mo rest hmo hp
    have h1 : (mo ++ 109 :: rest) <+: (m ++ 109 :: l) := (List.cons_prefix_cons.1 hp).2
    have same : ∀ (a b : List UInt8), (∀ x ∈ a, Mid x) → (∀ x ∈ b, Mid x) → (a ++ 109 :: rest) <+: (b ++ 109 :: l) → a = b ∧ rest <+: l := by
      intro a
      induction a with
      | nil =>
        intro b ha hb hp
        cases b with
        | nil => exact ⟨rfl, (List.cons_prefix_cons.1 hp).2⟩
        | cons y b =>
          have := (List.cons_prefix_cons.1 hp).1
          subst this
          exact absurd rfl (hb 109 (by simp)).2.2
      | cons x a iha =>
        intro b ha hb hp
        cases b with
        | nil =>
          have := (List.cons_prefix_cons.1 hp).1
          subst this
          exact absurd rfl (ha 109 (by simp)).2.2
        | cons y b =>
          obtain ⟨e, hp2⟩ := List.cons_prefix_cons.1 hp
          subst e
          obtain ⟨e2, h3⟩ := iha b (fun z hz => ha z (by simp [hz])) (fun z hz => hb z (by simp [hz])) hp2
          exact ⟨by rw [e2], h3⟩
    obtain ⟨e, hr⟩ := same mo m hmo hm h1
    subst e
    exact ⟨l, rfl, h, hr⟩
  | txt t l P ht hn h ih =>
    intro mo rest hmo hp
    cases t with
    | nil => exact ih mo rest hmo hp
    | cons x t =>
      have := (List.cons_prefix_cons.1 hp).1
      exact absurd this.symm (hn x (by simp))
theorem pre_one (mo : List UInt8) (hmo : ∀ x ∈ mo, Mid x) (l P : List UInt8) (h : Seg l P) (hp : (27 :: (mo ++ [109])).isPrefixOf l = true) : Seg (l.drop (27 :: (mo ++ [109])).length) P := by
  obtain ⟨l', e, hs, _⟩ := seg_one h mo [] hmo (by simpa using List.isPrefixOf_iff_prefix.1 hp)
  have e2 : l = (27 :: (mo ++ [109])) ++ l' := by rw [e]; simp
  rw [e2, List.drop_left]
  exact hs
theorem pre_two (ma mb : List UInt8) (ha : ∀ x ∈ ma, Mid x) (hb : ∀ x ∈ mb, Mid x) (l P : List UInt8) (h : Seg l P) (hp : ((27 :: (ma ++ [109])) ++ (27 :: (mb ++ [109]))).isPrefixOf l = true) :
    Seg (l.drop ((27 :: (ma ++ [109])) ++ (27 :: (mb ++ [109]))).length) P := by
  obtain ⟨l1, e1, hs1, hr1⟩ := seg_one h ma (27 :: (mb ++ 109 :: [])) ha (by simpa using List.isPrefixOf_iff_prefix.1 hp)
  obtain ⟨l2, e2, hs2, _⟩ := seg_one hs1 mb [] hb hr1
  have e : l = ((27 :: (ma ++ [109])) ++ (27 :: (mb ++ [109]))) ++ l2 := by rw [e1, e2]; simp
  rw [e, List.drop_left]
  exact hs2
end Go.Proofs.YtkfkhafmgndgaaaRRDoor.Seg
