/-
  Proved: the plain side of a float's text: the digits of a whole number, half's digits are there, the first one is not 0. Conditions: as told.
-/
import Derived.Test.YtgemoagbefdemaaUnH
namespace Go.Proofs.Ytgemoagbefdemaa.UnI
open Go.RowKit Go.Proofs.YtgemoagbefdemaaW.PrintWords Go.Proofs.Ytgemoagbefdemaa.UnB Go.Proofs.Ytgemoagbefdemaa.UnC Go.Proofs.Ytgemoagbefdemaa.UnD Go.Proofs.Ytgemoagbefdemaa.UnF Go.Proofs.Ytgemoagbefdemaa.UnG
set_option linter.unusedVariables false
set_option linter.unusedSimpArgs false
/-! digits of a whole number -/
theorem dec_rec (u : Nat) : Lib.decDigits u = if u < 10 then [UInt8.ofNat (48 + u)] else Lib.decDigits (u / 10) ++ [UInt8.ofNat (48 + u % 10)] := by
  rw [Lib.decDigits]
  split <;> rfl
theorem nat48 (d : Nat) (h : d < 10) : (UInt8.ofNat (48 + d)).toNat = 48 + d := by
  rw [UInt8.toNat_ofNat']
  omega
theorem val_append (a b : List UInt8) : val (a ++ b) = val a ++ val b := by simp [val]
theorem dec_digits : ∀ (u : Nat), ∀ b ∈ Lib.decDigits u, 48 ≤ b.toNat ∧ b.toNat ≤ 57 := by
  intro u
  induction u using Nat.strongRecOn with
  | _ u ih =>
    intro b hb
    rw [dec_rec] at hb
    split at hb
    · rename_i h
      rw [List.mem_singleton] at hb
      rw [hb, nat48 u h]
      omega
    · rename_i h
      rcases List.mem_append.1 hb with hb | hb
      · exact ih (u / 10) (by omega) b hb
      · rw [List.mem_singleton] at hb
        rw [hb, nat48 _ (by omega)]
        omega
theorem val_digits (u : Nat) : ∀ d ∈ val (Lib.decDigits u), 0 ≤ d ∧ d ≤ 9 := by
  intro d hd
  obtain ⟨b, hb, rfl⟩ := List.mem_map.1 hd
  have := dec_digits u b hb
  omega
/-- the number that the first i digits make -/
def nv (ds : List Int) : Nat → Nat
  | 0 => 0
  | i + 1 => nv ds i * 10 + dAt ds i
theorem nv_append (a b : List Int) : ∀ i, i ≤ a.length → nv (a ++ b) i = nv a i := by
  intro i
  induction i with
  | zero => intro _; rfl
  | succ i ih =>
    intro h
    rw [nv, nv, ih (by omega)]
    congr 1
    unfold dAt
    rw [List.getD_eq_getElem?_getD, List.getD_eq_getElem?_getD, List.getElem?_append_left (by omega)]
theorem val_len (l : List UInt8) : (val l).length = l.length := by simp [val]
theorem val_ne (u : Nat) : 1 ≤ (Lib.decDigits u).length := by
  rw [Lib.decDigits_length]
  exact Lib.nDigits_pos u
theorem nv_val : ∀ (u : Nat), nv (val (Lib.decDigits u)) (Lib.decDigits u).length = u := by
  intro u
  induction u using Nat.strongRecOn with
  | _ u ih =>
    rw [dec_rec]
    split
    · rename_i h
      show nv (val [UInt8.ofNat (48 + u)]) 1 = u
      show 0 * 10 + dAt [((UInt8.ofNat (48 + u)).toNat : Int) - 48] 0 = u
      rw [nat48 u h]
      show 0 * 10 + (((48 + u : Nat) : Int) - 48).toNat = u
      omega
    · rename_i h
      rw [val_append, List.length_append]
      show nv (val (Lib.decDigits (u / 10)) ++ val [UInt8.ofNat (48 + u % 10)]) (_ + 1) = u
      rw [nv, nv_append _ _ _ (by rw [val_len]; exact Nat.le_refl _), ih (u / 10) (by omega)]
      have : dAt (val (Lib.decDigits (u / 10)) ++ val [UInt8.ofNat (48 + u % 10)]) (Lib.decDigits (u / 10)).length = u % 10 := by
        unfold dAt
        rw [List.getD_eq_getElem?_getD, List.getElem?_append_right (by rw [val_len]; exact Nat.le_refl _), val_len, Nat.sub_self]
        show ((((UInt8.ofNat (48 + u % 10)).toNat : Int) - 48)).toNat = u % 10
        rw [nat48 _ (by omega)]
        omega
      rw [this]
      omega
theorem first_val : ∀ (u : Nat), 1 ≤ u → 1 ≤ (val (Lib.decDigits u)).getD 0 0 := by
  intro u
  induction u using Nat.strongRecOn with
  | _ u ih =>
    intro h1
    rw [dec_rec]
    split
    · rename_i h
      show (1 : Int) ≤ ((UInt8.ofNat (48 + u)).toNat : Int) - 48
      rw [nat48 u h]
      omega
    · rename_i h
      rw [val_append, List.getD_eq_getElem?_getD, List.getElem?_append_left (by rw [val_len]; exact val_ne _), ← List.getD_eq_getElem?_getD]
      exact ih (u / 10) (by omega) (by omega)
/-! trim -/
theorem trimN_take : ∀ (k : Nat) (ds : List Int), ∃ m, trimN k ds = ds.take m := by
  intro k
  induction k with
  | zero => intro ds; exact ⟨ds.length, by rw [List.take_length]; rfl⟩
  | succ k ih =>
    intro ds
    rw [trimN]
    split
    · obtain ⟨m, h⟩ := ih (ds.take (ds.length - 1))
      exact ⟨min m (ds.length - 1), by rw [h, List.take_take]⟩
    · exact ⟨ds.length, by rw [List.take_length]⟩
theorem trim_mem (ds : List Int) : ∀ d ∈ trim ds, d ∈ ds := by
  obtain ⟨m, h⟩ := trimN_take ds.length ds
  intro d hd
  unfold trim at hd
  rw [h] at hd
  exact List.mem_of_mem_take hd
theorem trim_len (ds : List Int) : (trim ds).length ≤ ds.length := by
  obtain ⟨m, h⟩ := trimN_take ds.length ds
  unfold trim
  rw [h, List.length_take]
  omega
theorem getD_take (ds : List Int) (m i : Nat) (h : i < m) : (ds.take m).getD i 0 = ds.getD i 0 := by
  rw [List.getD_eq_getElem?_getD, List.getD_eq_getElem?_getD, List.getElem?_take, if_pos h]
theorem trimN_at : ∀ (k : Nat) (ds : List Int) (i : Nat), (trimN k ds).getD i 0 = ds.getD i 0 := by
  intro k
  induction k with
  | zero => intro ds i; rfl
  | succ k ih =>
    intro ds i
    rw [trimN]
    split
    · rename_i h
      rw [ih]
      have hl : 0 < ds.length := List.length_pos_iff.2 h.1
      rcases Nat.lt_or_ge i (ds.length - 1) with hi | hi
      · exact getD_take ds _ i hi
      · rw [List.getD_eq_getElem?_getD, List.getElem?_eq_none (by rw [List.length_take]; omega)]
        rcases Nat.lt_or_ge i ds.length with h2 | h2
        · rw [show i = ds.length - 1 by omega, h.2]
          rfl
        · rw [List.getD_eq_getElem?_getD, List.getElem?_eq_none h2]
    · rfl
theorem trim_at (ds : List Int) (i : Nat) : (trim ds).getD i 0 = ds.getD i 0 := trimN_at _ _ _
theorem ne_of_first (ds : List Int) (h : ds.getD 0 0 ≠ 0) : ds ≠ [] := fun e => by rw [e] at h; exact h rfl
theorem trim_ne (ds : List Int) (h : ds.getD 0 0 ≠ 0) : trim ds ≠ [] := ne_of_first _ (by rw [trim_at]; exact h)
theorem dAt_trim (ds : List Int) (i : Nat) : dAt (trim ds) i = dAt ds i := by
  unfold dAt
  rw [trim_at]
theorem nv_trim (ds : List Int) : ∀ i, nv (trim ds) i = nv ds i := by
  intro i
  induction i with
  | zero => rfl
  | succ i ih => rw [nv, nv, ih, dAt_trim]
/-! half -/
theorem ph1_at (k : Nat) (ds : List Int) : ∀ (d i : Nat), nv ds (i + d) / 2 ^ k ≠ 0 → ∀ F, d < F → ∃ i0, i ≤ i0 ∧ i0 ≤ i + d ∧ ph1 k ds F i (nv ds i) = some (i0, nv ds i0) ∧ nv ds i0 / 2 ^ k ≠ 0 ∧ (i0 = i ∨ ∃ j, i0 = j + 1 ∧ nv ds j / 2 ^ k = 0) := by
  intro d
  induction d with
  | zero =>
    intro i h F hF
    obtain ⟨f, rfl⟩ : ∃ f, F = f + 1 := ⟨F - 1, by omega⟩
    exact ⟨i, Nat.le_refl _, Nat.le_refl _, by rw [ph1]; exact if_pos h, h, Or.inl rfl⟩
  | succ d ih =>
    intro i h F hF
    obtain ⟨f, rfl⟩ : ∃ f, F = f + 1 := ⟨F - 1, by omega⟩
    by_cases hi : nv ds i / 2 ^ k ≠ 0
    · exact ⟨i, Nat.le_refl _, by omega, by rw [ph1, if_pos hi], hi, Or.inl rfl⟩
    · obtain ⟨i0, h1, h2, h3, h4, h5⟩ := ih (i + 1) (by rw [show i + 1 + d = i + (d + 1) by omega]; exact h) f (by omega)
      refine ⟨i0, by omega, by omega, ?_, h4, Or.inr ?_⟩
      · rw [ph1, if_neg hi]
        exact h3
      · rcases h5 with rfl | h5
        · exact ⟨i, rfl, Decidable.of_not_not hi⟩
        · exact h5
/-- digits of one round: under 10 -/
theorem ph2_all (k : Nat) (ds : List Int) (hd : ∀ i, dAt ds i ≤ 9) : ∀ (F i n : Nat) (os out : List Int), n < 10 * 2 ^ k → (∀ d ∈ os, 0 ≤ d ∧ d ≤ 9) → ph2 k ds F i n os = some out → (∀ d ∈ out, 0 ≤ d ∧ d ≤ 9) ∧ out.length ≤ os.length + F ∧ (os ≠ [] → out.getD 0 0 = os.getD 0 0) := by
  intro F
  induction F with
  | zero => intro i n os out _ _ h; rw [ph2] at h; cases h
  | succ F ih =>
    intro i n os out hn ho h
    have h0 := Nat.two_pow_pos k
    have hm : n % 2 ^ k < 2 ^ k := Nat.mod_lt _ h0
    have hq : n / 2 ^ k < 10 := by rw [Nat.div_lt_iff_lt_mul h0]; exact hn
    rw [ph2] at h
    split at h
    · have hx := ih _ _ _ _ (by have := hd i; omega) (by
        intro d hd2
        rcases List.mem_append.1 hd2 with h1 | h1
        · exact ho d h1
        · rw [List.mem_singleton] at h1
          rw [h1, Nat.mod_eq_of_lt (Nat.lt_of_lt_of_le hq (by decide))]
          generalize n / 2 ^ k = q at hq
          omega) h
      refine ⟨hx.1, by have := hx.2.1; rw [List.length_append] at this; simp at this; omega, fun hne => ?_⟩
      rw [hx.2.2 (by simp)]
      rw [List.getD_eq_getElem?_getD, List.getElem?_append_left (List.length_pos_iff.2 hne), ← List.getD_eq_getElem?_getD]
    · injection h with h
      subst h
      exact ⟨ho, by omega, fun _ => rfl⟩
theorem ph2_end (k : Nat) (ds : List Int) : ∀ (t i n F : Nat) (os : List Int), ds.length ≤ i → t ≤ k + 1 → 2 ^ (k + 1 - t) ∣ n → n < 10 * 2 ^ k → t + 1 < F → ∃ out, ph2 k ds F i n os = some out := by
  intro t
  induction t with
  | zero =>
    intro i n F os hi _ hdv hn hF
    obtain ⟨f, rfl⟩ : ∃ f, F = f + 2 := ⟨F - 2, by omega⟩
    rw [ph2]
    split
    · have : n % 2 ^ k = 0 := Nat.mod_eq_zero_of_dvd (Nat.dvd_trans (Nat.pow_dvd_pow 2 (by omega)) hdv)
      rw [this, dAt_out ds i (by omega), ph2, if_neg (by omega)]
      exact ⟨_, rfl⟩
    · exact ⟨_, rfl⟩
  | succ t ih =>
    intro i n F os hi ht hdv hn hF
    obtain ⟨f, rfl⟩ : ∃ f, F = f + 1 := ⟨F - 1, by omega⟩
    have h0 := Nat.two_pow_pos k
    have hm : n % 2 ^ k < 2 ^ k := Nat.mod_lt _ h0
    rw [ph2]
    split
    · rw [dAt_out ds i (by omega)]
      refine ih (i + 1) _ f _ (by omega) (by omega) ?_ (by omega) (by omega)
      rw [Nat.add_zero]
      have h1 : 2 ^ (k + 1 - (t + 1)) ∣ n % 2 ^ k := (Nat.dvd_mod_iff (Nat.pow_dvd_pow 2 (by omega))).2 hdv
      have h2 : 2 ^ (k + 1 - t) = 2 ^ (k + 1 - (t + 1)) * 2 := by rw [← Nat.pow_succ]; congr 1; omega
      rw [h2]
      exact Nat.mul_dvd_mul h1 (by decide)
    · exact ⟨_, rfl⟩
theorem ph2_some (k : Nat) (ds : List Int) (hd : ∀ i, dAt ds i ≤ 9) : ∀ (d i n F : Nat) (os : List Int), d = ds.length - i → n < 10 * 2 ^ k → d + k + 3 < F → ∃ out, ph2 k ds F i n os = some out := by
  intro d
  induction d with
  | zero => intro i n F os hdi hn hF; exact ph2_end k ds (k + 1) i n F os (by omega) (Nat.le_refl _) (by rw [Nat.sub_self]; exact Nat.one_dvd n) hn (by omega)
  | succ d ih =>
    intro i n F os hdi hn hF
    obtain ⟨f, rfl⟩ : ∃ f, F = f + 1 := ⟨F - 1, by omega⟩
    have h0 := Nat.two_pow_pos k
    have hm : n % 2 ^ k < 2 ^ k := Nat.mod_lt _ h0
    rw [ph2]
    split
    · exact ih (i + 1) _ f _ (by omega) (by have := hd i; omega) (by omega)
    · exact ⟨_, rfl⟩
/-! all together -/
theorem dAt9 (ds : List Int) (hd : ∀ d ∈ ds, 0 ≤ d ∧ d ≤ 9) (i : Nat) : dAt ds i ≤ 9 := dAt_le ds hd i
structure Half (m k : Nat) (i0 n0 : Nat) (out : List Int) : Prop where
  p1 : ph1 k (trim (val (Lib.decDigits m))) 100 0 0 = some (i0, n0)
  p2 : ph2 k (trim (val (Lib.decDigits m))) 100 i0 n0 [] = some out
  dig : ∀ d ∈ out, 0 ≤ d ∧ d ≤ 9
  len : out.length ≤ 100
  first : out.getD 0 0 ≠ 0
  i1 : 1 ≤ i0
  i2 : i0 ≤ (Lib.decDigits m).length
theorem dec_len (m : Nat) (hm : m < 18446744073709551616) : (Lib.decDigits m).length ≤ 20 := by
  rw [Lib.decDigits_length]
  exact Lib.nDigits_le20 m hm
theorem half_some (m k : Nat) (hm : m < 18446744073709551616) (hk : k ≤ 52) (hmk : 2 ^ k ≤ m) : ∃ i0 n0 out, Half m k i0 n0 out := by
  have h0 := Nat.two_pow_pos k
  have hL := dec_len m hm
  have hdv := val_digits m
  have hd : ∀ i, dAt (trim (val (Lib.decDigits m))) i ≤ 9 := fun i => by rw [dAt_trim]; exact dAt9 _ hdv i
  have hnv : nv (trim (val (Lib.decDigits m))) (0 + (Lib.decDigits m).length) = m := by rw [Nat.zero_add, nv_trim, nv_val]
  have hq : m / 2 ^ k ≠ 0 := by have := Nat.div_pos hmk h0; omega
  obtain ⟨i0, h1, h2, h3, h4, h5⟩ := ph1_at k (trim (val (Lib.decDigits m))) (Lib.decDigits m).length 0 (by rw [hnv]; exact hq) 100 (by omega)
  generalize hds : trim (val (Lib.decDigits m)) = ds at *
  have hlen : ds.length ≤ 20 := by
    rw [← hds]
    exact Nat.le_trans (trim_len _) (by rw [val_len]; exact hL)
  rw [Nat.zero_add] at h2
  have hj : ∃ j, i0 = j + 1 ∧ nv ds j / 2 ^ k = 0 := by
    rcases h5 with rfl | h5
    · exact absurd (by show 0 / 2 ^ k = 0; exact Nat.zero_div _) h4
    · exact h5
  obtain ⟨j, rfl, hj⟩ := hj
  have hjl : nv ds j < 2 ^ k := by
    rcases Nat.lt_or_ge (nv ds j) (2 ^ k) with h | h
    · exact h
    · have := Nat.div_pos h h0
      omega
  have hn0 : nv ds (j + 1) < 10 * 2 ^ k := by
    rw [nv]
    have := hd j
    omega
  obtain ⟨out, ho⟩ := ph2_some k ds hd (ds.length - (j + 1)) (j + 1) (nv ds (j + 1)) 100 [] rfl hn0 (by omega)
  have hpos : 0 < nv ds (j + 1) := by
    rcases Nat.eq_zero_or_pos (nv ds (j + 1)) with e | e
    · rw [e, Nat.zero_div] at h4
      exact absurd rfl h4
    · exact e
  have ho2 := ho
  rw [show (100 : Nat) = 99 + 1 from rfl, ph2, if_pos (Or.inr hpos), List.nil_append] at ho2
  have hq2 : nv ds (j + 1) / 2 ^ k < 10 := by rw [Nat.div_lt_iff_lt_mul h0]; exact hn0
  have hm2 : nv ds (j + 1) % 2 ^ k < 2 ^ k := Nat.mod_lt _ h0
  have ha := ph2_all k ds hd 99 _ _ _ _ (by have := hd (j + 1); omega) (by
    intro d hd2
    rw [List.mem_singleton] at hd2
    rw [hd2, Nat.mod_eq_of_lt (Nat.lt_of_lt_of_le hq2 (by decide))]
    generalize nv ds (j + 1) / 2 ^ k = q at hq2
    omega) ho2
  refine ⟨j + 1, nv ds (j + 1), out, ⟨by rw [hds]; exact h3, by rw [hds]; exact ho, ha.1, by have := ha.2.1; simp at this; omega, ?_, by omega, h2⟩⟩
  rw [ha.2.2 (by simp), Nat.mod_eq_of_lt (Nat.lt_of_lt_of_le hq2 (by decide))]
  show ((nv ds (j + 1) / 2 ^ k : Nat) : Int) ≠ 0
  generalize nv ds (j + 1) / 2 ^ k = q at h4
  omega
/-! rounding -/
theorem upL_dig (ds : List Int) (hd : ∀ d ∈ ds, 0 ≤ d ∧ d ≤ 9) : ∀ (n : Nat) (l : List Int), upL ds n = some l → ∀ d ∈ l, 0 ≤ d ∧ d ≤ 9 := by
  intro n
  induction n with
  | zero => intro l h; cases h
  | succ n ih =>
    intro l h
    rw [upL] at h
    split at h
    · rename_i h9
      injection h with h
      subst h
      intro d hd2
      rcases List.mem_or_eq_of_mem_set hd2 with h1 | h1
      · exact hd d (List.mem_of_mem_take h1)
      · have : 0 ≤ rdOf 0 ds (n : Int) := by
          unfold rdOf
          rw [Int.toNat_natCast, List.getD_eq_getElem?_getD]
          rcases Nat.lt_or_ge n ds.length with h2 | h2
          · rw [List.getElem?_eq_getElem h2]
            exact (hd _ (List.getElem_mem h2)).1
          · rw [List.getElem?_eq_none h2]
            exact Int.le_refl _
        omega
    · exact ih l h
theorem rnd_dig (ds : List Int) (hd : ∀ d ∈ ds, 0 ≤ d ∧ d ≤ 9) (n : Nat) : ∀ d ∈ rndD ds n, 0 ≤ d ∧ d ≤ 9 := by
  intro d h
  unfold rndD at h
  split at h
  · unfold upD at h
    cases hu : upL ds n with
    | none =>
      rw [hu] at h
      have : d = 1 := by simpa using h
      omega
    | some l =>
      rw [hu] at h
      exact upL_dig ds hd n l hu d h
  · split at h
    · exact hd d (List.mem_of_mem_take (trim_mem _ d h))
    · exact hd d h
theorem rnd_point (ds : List Int) (hf : ds.getD 0 0 ≠ 0) (p : Int) (n : Nat) (hn : 1 ≤ n) : rndP ds p n = p ∨ rndP ds p n = p + 1 := by
  unfold rndP
  split
  · unfold upP
    split
    · exact Or.inl rfl
    · exact Or.inr rfl
  · split
    · left
      unfold tdp
      rw [if_neg (trim_ne _ (by rw [getD_take _ _ _ hn]; exact hf))]
    · exact Or.inl rfl
/-- the text of mant times 2 to the power -k, with two digits behind the point -/
def ftext (m k : Nat) : ByteArray :=
  match ph1 k (trim (val (Lib.decDigits m))) 100 0 0 with
  | none => ⟨#[]⟩
  | some (i0, n0) => match ph2 k (trim (val (Lib.decDigits m))) 100 i0 n0 [] with
    | none => ⟨#[]⟩
    | some out => strOfNums (UnH.textL (rndD (trim out) (((Lib.decDigits m).length - (i0 - 1)) + 2)) (rndP (trim out) (((Lib.decDigits m).length - (i0 - 1) : Nat) : Int) (((Lib.decDigits m).length - (i0 - 1)) + 2)).toNat 2)
theorem ftext_of {m k i0 n0 : Nat} {out : List Int} (h : Half m k i0 n0 out) : ftext m k = strOfNums (UnH.textL (rndD (trim out) (((Lib.decDigits m).length - (i0 - 1)) + 2)) (rndP (trim out) (((Lib.decDigits m).length - (i0 - 1) : Nat) : Int) (((Lib.decDigits m).length - (i0 - 1)) + 2)).toNat 2) := by
  unfold ftext
  rw [h.p1]
  dsimp only
  rw [h.p2]
theorem ftext_size {m k i0 n0 : Nat} {out : List Int} (hm : m < 18446744073709551616) (h : Half m k i0 n0 out) : (ftext m k).size ≤ 100 := by
  rw [ftext_of h, strOfNums_size]
  have hL := dec_len m hm
  have hf : (trim out).getD 0 0 ≠ 0 := by rw [trim_at]; exact h.first
  have hp := rnd_point (trim out) hf (((Lib.decDigits m).length - (i0 - 1) : Nat) : Int) (((Lib.decDigits m).length - (i0 - 1)) + 2) (by omega)
  unfold UnH.textL
  rw [List.length_append, List.length_append, UnH.chs_len, UnH.chs_len]
  simp only [List.length_cons, List.length_nil]
  rcases hp with hp | hp <;> (rw [hp]; omega)
end Go.Proofs.Ytgemoagbefdemaa.UnI
