/-
  Proved: the plain law of carriage returns over lists of bytes: line by line is the same as a machine that goes byte by byte. Conditions: none.
-/
import Derived.Test.YtjoagjkmghmnnaaCommon
import Derived.Lib.Join
namespace Go.Proofs.Ytjoagjkmghmnnaa.Crlf
open Go.Proofs.Ytjoagjkmghmnnaa.Common
set_option linter.unusedVariables false

/-- a line written with returns: what is left, what stands, the carriage -/
def over : List UInt8 → List UInt8 → Nat → List UInt8
  | [], line, _ => line
  | c :: t, line, at_ => if c = 13 then over t line 0 else if at_ < line.length then over t (line.set at_ c) (at_ + 1) else over t (line ++ [c]) (at_ + 1)
/-- the machine over the whole text -/
def ret : List UInt8 → List UInt8 → List UInt8 → Nat → List UInt8
  | [], out, line, _ => out ++ line
  | c :: t, out, line, at_ => if c = 10 then ret t (out ++ line ++ [10]) [] 0 else if c = 13 then ret t out line 0 else if at_ < line.length then ret t out (line.set at_ c) (at_ + 1) else ret t out (line ++ [c]) (at_ + 1)
def ov (l : List UInt8) : List UInt8 := over l [] 0

theorem join_two (x : List UInt8) (y : List UInt8) (r : List (List UInt8)) : Lib.join (x :: y :: r) [10] = x ++ 10 :: Lib.join (y :: r) [10] := by
  rw [Lib.join_cons, Lib.join_cons]
  simp [Lib.joinTail]
theorem ret_parts : ∀ (s out line : List UInt8) (at_ : Nat), ret s out line at_ = match partsOf 10 s with | [] => [] | l :: r => out ++ Lib.join (over l line at_ :: r.map ov) [10]
  | [], out, line, at_ => by simp [ret, partsOf, over, Lib.join_one]
  | c :: t, out, line, at_ => by
    rw [ret, partsOf]
    cases hp : partsOf 10 t with
    | nil => exact absurd hp (partsOf_ne _ _)
    | cons l r =>
      by_cases h : c = 10
      · rw [if_pos h, if_pos h, ret_parts t, hp]
        simp only [List.map_cons]
        rw [join_two, over]
        simp [ov]
      · rw [if_neg h, if_neg h]
        by_cases h13 : c = 13
        · rw [if_pos h13, ret_parts t, hp]
          simp only [over, if_pos h13]
        · rw [if_neg h13]
          by_cases hlt : at_ < line.length
          · rw [if_pos hlt, ret_parts t, hp]
            simp only [over, if_neg h13, if_pos hlt]
          · rw [if_neg hlt, ret_parts t, hp]
            simp only [over, if_neg h13, if_neg hlt]
theorem over_plain : ∀ (l line : List UInt8), 13 ∉ l → over l line line.length = line ++ l
  | [], line, _ => by simp [over]
  | c :: t, line, h => by
    have h1 : ¬ c = 13 := fun e => h (by rw [e]; simp)
    rw [over, if_neg h1, if_neg (by omega)]
    have := over_plain t (line ++ [c]) (fun e => h (by simp [e]))
    rw [List.length_append, List.length_singleton] at this
    rw [this]
    simp
theorem ov_plain (l : List UInt8) (h : 13 ∉ l) : ov l = l := by
  have := over_plain l [] h
  simpa [ov] using this
theorem over_cr : ∀ (l line : List UInt8) (at_ : Nat), over (l ++ [13]) line at_ = over l line at_
  | [], line, at_ => by simp [over]
  | c :: t, line, at_ => by
    simp only [List.cons_append, over]
    split
    · exact over_cr t _ _
    · split
      · exact over_cr t _ _
      · exact over_cr t _ _
/-- \r\n is \n -/
def crlf : List UInt8 → List UInt8
  | [] => []
  | c :: t => if c = 13 ∧ t.head? = some 10 then 10 :: crlf t.tail else c :: crlf t
termination_by l => l.length
decreasing_by
  · simp; omega
  · simp
theorem repl_crlf : ∀ (m : Nat) (l : List UInt8) (n : Nat), l.length ≤ m → l.length ≤ n → replL [13, 10] [10] n l = crlf l
  | _, [], n, _, _ => by rw [repl_nil _ _ (by simp), crlf]
  | 0, c :: t, n, hm, _ => by simp at hm
  | m + 1, c :: t, n, hm, hn => by
    obtain ⟨k, rfl⟩ : ∃ k, n = k + 1 := ⟨n - 1, by simp at hn; omega⟩
    simp only [List.length_cons] at hm hn
    rw [crlf]
    by_cases hc : c = 13 ∧ t.head? = some 10
    · rw [if_pos hc]
      obtain ⟨rfl, h2⟩ := hc
      cases t with
      | nil => simp at h2
      | cons d t =>
        simp at h2
        subst h2
        simp only [List.length_cons] at hm hn
        rw [repl_hit _ _ _ _ (by simp) (by simp [List.isPrefixOf])]
        simp only [List.length_cons, List.length_nil, List.drop_succ_cons, List.drop_zero, List.tail_cons]
        rw [repl_crlf m t k (by omega) (by omega)]
        rfl
    · rw [if_neg hc, repl_cons, repl_crlf m t (k + 1) (by omega) (by omega)]
      intro hp
      cases t with
      | nil => simp [List.isPrefixOf] at hp
      | cons d t =>
        simp [List.isPrefixOf] at hp
        exact hc ⟨hp.1.symm, by simp [← hp.2]⟩
/-- the first line may have lost one return at its end, the others are the same -/
def Alike (a b : List (List UInt8)) : Prop := ∃ l l1 r r1, a = l :: r ∧ b = l1 :: r1 ∧ (l = l1 ∨ l = l1 ++ [13]) ∧ r.map ov = r1.map ov
theorem alike_ov {a b : List (List UInt8)} (h : Alike a b) : a.map ov = b.map ov := by
  obtain ⟨l, l1, r, r1, rfl, rfl, hl, hr⟩ := h
  rw [List.map_cons, List.map_cons, hr]
  congr 1
  rcases hl with rfl | rfl
  · rfl
  · exact over_cr l1 [] 0
theorem parts_crlf : ∀ (m : Nat) (l : List UInt8), l.length ≤ m → Alike (partsOf 10 l) (partsOf 10 (crlf l))
  | _, [], _ => by rw [crlf]; exact ⟨[], [], [], [], rfl, rfl, .inl rfl, rfl⟩
  | 0, c :: t, hm => by simp at hm
  | m + 1, c :: t, hm => by
    simp only [List.length_cons] at hm
    rw [crlf]
    by_cases hc : c = 13 ∧ t.head? = some 10
    · rw [if_pos hc]
      obtain ⟨rfl, h2⟩ := hc
      cases t with
      | nil => simp at h2
      | cons d t =>
        simp at h2
        subst h2
        simp only [List.length_cons] at hm
        have ih := alike_ov (parts_crlf m t (by omega))
        have e1 : partsOf 10 (13 :: 10 :: t) = [13] :: partsOf 10 t := by
          rw [partsOf, if_neg (by decide)]
          have e2 : partsOf 10 (10 :: t) = [] :: partsOf 10 t := by rw [partsOf, if_pos rfl]
          rw [e2]
        have e3 : partsOf 10 (10 :: crlf t) = [] :: partsOf 10 (crlf t) := by rw [partsOf, if_pos rfl]
        rw [e1, List.tail_cons, e3]
        exact ⟨_, _, _, _, rfl, rfl, .inr rfl, ih⟩
    · rw [if_neg hc]
      have ih := parts_crlf m t (by omega)
      by_cases h10 : c = 10
      · rw [partsOf, if_pos h10]
        conv => arg 2; rw [partsOf, if_pos h10]
        exact ⟨_, _, _, _, rfl, rfl, .inl rfl, alike_ov ih⟩
      · rw [partsOf, if_neg h10]
        conv => arg 2; rw [partsOf, if_neg h10]
        obtain ⟨l, l1, r, r1, h1, h2, hl, hr⟩ := ih
        rw [h1, h2]
        refine ⟨c :: l, c :: l1, r, r1, rfl, rfl, ?_, hr⟩
        rcases hl with rfl | rfl
        · exact .inl rfl
        · exact .inr rfl
theorem join_parts : ∀ l : List UInt8, Lib.join (partsOf 10 l) [10] = l
  | [] => by simp [partsOf, Lib.join_one]
  | c :: t => by
    have ih := join_parts t
    rw [partsOf]
    cases hp : partsOf 10 t with
    | nil => exact absurd hp (partsOf_ne _ _)
    | cons l r =>
      rw [hp] at ih
      by_cases h : c = 10
      · rw [if_pos h, join_two, ih, h]; rfl
      · rw [if_neg h]
        simp only []
        rw [Lib.join_cons] at ih ⊢
        rw [List.cons_append, ih]
theorem parts_mem : ∀ (l : List UInt8) (x : List UInt8), x ∈ partsOf 10 l → ∀ c ∈ x, c ∈ l
  | [], x, hx, c, hc => by simp [partsOf] at hx; subst hx; simp at hc
  | d :: t, x, hx, c, hc => by
    have ih := parts_mem t
    rw [partsOf] at hx
    by_cases h : d = 10
    · rw [if_pos h] at hx
      rcases List.mem_cons.1 hx with rfl | hx
      · simp at hc
      · exact List.mem_cons_of_mem _ (ih x hx c hc)
    · rw [if_neg h] at hx
      cases hp : partsOf 10 t with
      | nil => exact absurd hp (partsOf_ne _ _)
      | cons l r =>
        rw [hp] at hx ih
        rcases List.mem_cons.1 hx with rfl | hx
        · rcases List.mem_cons.1 hc with rfl | hc
          · simp
          · exact List.mem_cons_of_mem _ (ih l (by simp) c hc)
        · exact List.mem_cons_of_mem _ (ih x (by simp [hx]) c hc)
/-- what the package's function gives -/
def byLines (s : List UInt8) : List UInt8 := if 13 ∈ crlf s then Lib.join ((partsOf 10 (crlf s)).map fun l => if 13 ∈ l then ov l else l) [10] else crlf s
theorem byLines_ret (s : List UInt8) : byLines s = ret s [] [] 0 := by
  have e : ((partsOf 10 (crlf s)).map fun l => if 13 ∈ l then ov l else l) = (partsOf 10 s).map ov := by
    rw [alike_ov (parts_crlf s.length s (Nat.le_refl _))]
    refine List.map_congr_left fun l _ => ?_
    split
    · rfl
    · rename_i h; exact (ov_plain l h).symm
  have e2 : ret s [] [] 0 = Lib.join ((partsOf 10 s).map ov) [10] := by
    rw [ret_parts]
    cases hp : partsOf 10 s with
    | nil => exact absurd hp (partsOf_ne _ _)
    | cons l r => rfl
  unfold byLines
  split
  · rw [e, e2]
  · rename_i h
    rw [e2, ← e]
    have e3 : ((partsOf 10 (crlf s)).map fun l => if 13 ∈ l then ov l else l) = partsOf 10 (crlf s) := by
      conv => rhs; rw [← List.map_id (partsOf 10 (crlf s))]
      refine List.map_congr_left fun l hl => ?_
      rw [if_neg (fun hm => h (parts_mem _ l hl 13 hm))]
      rfl
    rw [e3, join_parts]
end Go.Proofs.Ytjoagjkmghmnnaa.Crlf
