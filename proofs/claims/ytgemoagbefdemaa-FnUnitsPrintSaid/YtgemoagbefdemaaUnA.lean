/-
  Proved: the word of a ratio of two whole numbers, the lower one at most the upper one, that is not great: its exponent is from 0 to 15. Conditions: as told.
-/
import Ieee.Arith
import Derived.Laws.FloatBits
namespace Go.Proofs.Ytgemoagbefdemaa.UnA
open Ieee
set_option linter.unusedVariables false
set_option exponentiation.threshold 3000
def B : Nat := 4503599627370496
theorem frac : double.fractionBits = 52 := rfl
theorem least : double.leastPlace = -1074 := by decide
theorem binade : double.binade = B := by decide
theorem inf_ : double.infRung = 2047 * B := by decide
theorem sign : double.signWeight = 2048 * B := by decide
theorem cut_zero (n : Nat) : Toward.even.cut false n 0 = n := by
  unfold Toward.cut
  simp [Nat.mod_one]
theorem log_pos (m : Nat) (h : m ≠ 0) : 2 ^ m.log2 ≤ m ∧ m < 2 ^ (m.log2 + 1) := ⟨Nat.log2_self_le h, Nat.lt_log2_self⟩
/-- the word nearest to a number: its exponent is the number's own, or one more -/
theorem near (m : Nat) (p : Int) (h : m ≠ 0) (h1 : -1000 ≤ p + m.log2) (h2 : p + m.log2 ≤ 1000) : ∃ k, k ≤ B ∧ double.nearest false m p = (p + m.log2 + 1023).toNat * B + k := by
  obtain ⟨hl, hu⟩ := log_pos m h
  unfold Format.nearest
  rw [if_neg h]
  dsimp only
  rw [frac, least, binade, inf_]
  generalize m.log2 = L at *
  have hlast : max (p + (L : Int) - (52 : Nat)) (-1074) = p + L - 52 := by omega
  rw [hlast]
  have e1 : (p - (p + (L : Int) - 52)).toNat = 52 - L := by omega
  have e2 : (p + (L : Int) - 52 - p).toNat = L - 52 := by omega
  have e3 : (p + (L : Int) - 52 - -1074).toNat = (p + L + 1023).toNat - 1 := by omega
  rw [e1, e2, e3]
  have hk : ∃ k, k ≤ B ∧ Toward.even.cut false (m <<< (52 - L)) (L - 52) = B + k := by
    rcases Nat.le_total L 52 with hc | hc
    · rw [show L - 52 = 0 by omega, cut_zero, Nat.shiftLeft_eq]
      have a1 : 2 ^ L * 2 ^ (52 - L) = B := by rw [← Nat.pow_add, show L + (52 - L) = 52 by omega]; rfl
      have a2 : 2 ^ (L + 1) * 2 ^ (52 - L) = 2 * B := by rw [Nat.pow_succ, Nat.mul_comm (2 ^ L) 2, Nat.mul_assoc, a1]
      have b1 : B ≤ m * 2 ^ (52 - L) := by rw [← a1]; exact Nat.mul_le_mul_right _ hl
      have b2 : m * 2 ^ (52 - L) < 2 * B := by rw [← a2]; exact Nat.mul_lt_mul_of_pos_right hu (Nat.two_pow_pos _)
      exact ⟨m * 2 ^ (52 - L) - B, by omega, by omega⟩
    · rw [show 52 - L = 0 by omega, Nat.shiftLeft_zero]
      unfold Toward.cut
      dsimp only
      have hlm : L = m.log2 := by
        have := (Nat.log2_eq_iff h).2 ⟨hl, hu⟩
        exact this.symm
      rw [← hlm, show min (L - 52) (L + 2) = L - 52 by omega, Nat.shiftLeft_eq, Nat.one_mul]
      have g0 : 0 < 2 ^ (L - 52) := Nat.two_pow_pos _
      have a1 : B * 2 ^ (L - 52) = 2 ^ L := by
        rw [show B = 2 ^ 52 from rfl, ← Nat.pow_add, show 52 + (L - 52) = L by omega]
      have b1 : B ≤ m / 2 ^ (L - 52) := by
        rw [Nat.le_div_iff_mul_le g0, a1]
        exact hl
      have b2 : m / 2 ^ (L - 52) < 2 * B := by
        rw [Nat.div_lt_iff_lt_mul g0, Nat.mul_assoc, a1, Nat.mul_comm, ← Nat.pow_succ]
        exact hu
      refine ⟨m / 2 ^ (L - 52) + _ - B, ?_, (Nat.add_sub_cancel' (Nat.le_trans b1 (Nat.le_add_right _ _))).symm⟩
      have : ∀ b : Bool, b.toNat ≤ 1 := fun b => by cases b <;> decide
      have := this (decide (2 ^ (L - 52) < 2 * (m % 2 ^ (L - 52))) || (2 ^ (L - 52) == 2 * (m % 2 ^ (L - 52)) && m / 2 ^ (L - 52) % 2 == 1))
      omega
  obtain ⟨k, hk1, hk2⟩ := hk
  refine ⟨k, hk1, ?_⟩
  rw [hk2]
  unfold Format.word
  rw [if_neg (by simp)]
  have hB : B = 4503599627370496 := rfl
  obtain ⟨E, hE⟩ : ∃ E, (p + (L : Int) + 1023).toNat = E + 1 := ⟨(p + (L : Int) + 1023).toNat - 1, by omega⟩
  have e5 : (E + 1) * B = E * B + B := Nat.succ_mul E B
  rw [hE, Nat.add_sub_cancel, e5, Nat.min_eq_left]
  · omega
  · have : E ≤ 2022 := by omega
    rw [hB] at hk1 ⊢
    omega
/-- a normal word read -/
theorem read_word (E k : Nat) (h1 : 1 ≤ E) (h2 : E ≤ 2046) (hk : k < B) : double.read (E * B + k) = .number false (B + k) (-1074 + ((E : Int) - 1)) := by
  have hB : B = 4503599627370496 := rfl
  unfold Format.read
  dsimp only
  rw [sign, binade, inf_, least]
  have hlt : E * B + k < 2048 * B := by rw [hB] at hk ⊢; omega
  rw [Nat.mod_eq_of_lt hlt, Nat.div_eq_of_lt hlt, if_neg (by rw [hB] at hk ⊢; omega), if_pos (by rw [hB] at hk ⊢; omega)]
  have m1 : (E * B + k) % B = k := by rw [Nat.add_comm, Nat.add_mul_mod_self_right, Nat.mod_eq_of_lt hk]
  have d1 : (E * B + k) / B = E := by rw [Nat.add_comm, Nat.add_mul_div_right _ _ (by rw [hB]; omega), Nat.div_eq_of_lt hk, Nat.zero_add]
  rw [m1, d1]
  congr 1
  omega
/-- a word is its exponent and its fraction -/
theorem split_word (E k : Nat) (hk : k ≤ B) : ∃ E' k', k' < B ∧ E * B + k = E' * B + k' ∧ E ≤ E' ∧ E' ≤ E + 1 := by
  rcases Nat.lt_or_ge k B with h | h
  · exact ⟨E, k, h, rfl, Nat.le_refl _, by omega⟩
  · exact ⟨E + 1, 0, by show 0 < B; decide, by rw [Nat.succ_mul]; omega, by omega, Nat.le_refl _⟩
/-- the word of a whole number -/
theorem nat_word (v : Nat) (h : v ≠ 0) (hv : v.log2 ≤ 63) : ∃ E k, k < B ∧ double.write (.number false v 0) = E * B + k ∧ v.log2 + 1023 ≤ E ∧ E ≤ v.log2 + 1024 := by
  obtain ⟨k, hk, hn⟩ := near v 0 h (by omega) (by omega)
  obtain ⟨E', k', h1, h2, h3, h4⟩ := split_word ((0 : Int) + v.log2 + 1023).toNat k hk
  refine ⟨E', k', h1, ?_, by omega, by omega⟩
  show double.nearest false v 0 = _
  rw [hn, h2]
theorem log_range (m a : Nat) (h1 : 2 ^ a ≤ m) (h2 : m < 2 ^ (a + 1)) : m.log2 = a := (Nat.log2_eq_iff (by have := Nat.two_pow_pos a; omega)).2 ⟨h1, h2⟩
/-- a quotient of two normal words -/
theorem quot (Ex kx Ey ky : Nat) (hx : kx < B) (hy : ky < B) (h1 : 1 ≤ Ex) (h2 : Ex ≤ 1200) (h3 : 1 ≤ Ey) (h4 : Ey ≤ 1200) (hle : Ey * B + ky ≤ Ex * B + kx) (hge : Ex * B + kx ≤ Ey * B + ky + 14 * B) :
    ∃ e f, e ≤ 15 ∧ f < B ∧ double.div (Ex * B + kx) (Ey * B + ky) = some ((1023 + e) * B + f) := by
  have hB : B = 4503599627370496 := rfl
  have lx : (B + kx).log2 = 52 := log_range _ _ (by show B ≤ _; omega) (by show _ < 2 * B; omega)
  have ly : (B + ky).log2 = 52 := log_range _ _ (by show B ≤ _; omega) (by show _ < 2 * B; omega)
  unfold Format.div
  rw [read_word Ex kx h1 (by omega) hx, read_word Ey ky h3 (by omega) hy, frac]
  unfold Datum.quotient
  dsimp only
  rw [if_neg (show ¬ B + ky = 0 by omega)]
  simp only [lx, ly]
  rw [show (52 + 2 + 52 - 52 : Nat) = 54 by omega, Nat.shiftLeft_eq]
  obtain ⟨t, ht⟩ : ∃ t, ((B + kx) * 2 ^ 54 % (B + ky) != 0).toNat = t ∧ t ≤ 1 := by
    refine ⟨_, rfl, ?_⟩
    cases ((B + kx) * 2 ^ 54 % (B + ky) != 0) <;> decide
  rw [ht.1]
  obtain ⟨q, hq⟩ : ∃ q, (B + kx) * 2 ^ 54 / (B + ky) = q := ⟨_, rfl⟩
  rw [hq]
  have hpos : 0 < B + ky := by omega
  have hp54 : (2 : Nat) ^ 54 = 18014398509481984 := by decide
  have q1 : (B + ky) * q ≤ (B + kx) * 2 ^ 54 := by rw [← hq]; exact Nat.mul_div_le _ _
  have q2 : (B + kx) * 2 ^ 54 < (B + ky) * (q + 1) := by rw [← hq]; exact Nat.lt_mul_div_succ _ hpos
  -- the exponent of the quotient
  have hL : ∃ (L e : Nat), (2 * q + t).log2 = L ∧ 2 * q + t ≠ 0 ∧ e ≤ 14 ∧ (-1074 + ((Ex : Int) - 1) - (-1074 + ((Ey : Int) - 1)) - (54 : Nat) - 1) + (L : Int) = (e : Int) := by
    rcases Nat.lt_or_ge kx ky with hc | hc
    rotate_left
    · have r1 : 2 ^ 54 ≤ q := by
        rw [← hq, Nat.le_div_iff_mul_le hpos, Nat.mul_comm]
        exact Nat.mul_le_mul_right _ (by omega)
      have r2 : q < 2 ^ 55 := by
        rw [← hq, Nat.div_lt_iff_lt_mul hpos, show (2 : Nat) ^ 55 = 2 * 2 ^ 54 by decide, Nat.mul_comm (2 * 2 ^ 54), ← Nat.mul_assoc]
        exact Nat.mul_lt_mul_of_pos_right (by omega) (by decide)
      have hl : (2 * q + t).log2 = 55 := log_range _ _ (by rw [show (2 : Nat) ^ 55 = 2 * 2 ^ 54 by decide]; omega) (by rw [show (2 : Nat) ^ (55 + 1) = 2 * 2 ^ 55 by decide]; omega)
      have hE : Ey ≤ Ex := by
        rcases Nat.lt_or_ge Ex Ey with h | h
        · rw [hB] at hle hx hy; omega
        · exact h
      have hE2 : Ex ≤ Ey + 14 := by rw [hB] at hge; omega
      exact ⟨55, Ex - Ey, hl, by rw [hp54] at r1; omega, by omega, by omega⟩
    · have r1 : 2 ^ 53 ≤ q := by
        rw [← hq, Nat.le_div_iff_mul_le hpos, show (2 : Nat) ^ 54 = 2 * 2 ^ 53 by decide, Nat.mul_comm, ← Nat.mul_assoc]
        exact Nat.mul_le_mul_right _ (by omega)
      have r2 : q < 2 ^ 54 := by
        rw [← hq, Nat.div_lt_iff_lt_mul hpos, Nat.mul_comm (2 ^ 54)]
        exact Nat.mul_lt_mul_of_pos_right (by omega) (by decide)
      have hl : (2 * q + t).log2 = 54 := log_range _ _ (by rw [show (2 : Nat) ^ 54 = 2 * 2 ^ 53 by decide]; omega) (by rw [show (2 : Nat) ^ (54 + 1) = 2 * 2 ^ 54 by decide]; omega)
      have hE : Ey + 1 ≤ Ex := by
        rcases Nat.lt_or_ge Ey Ex with h | h
        · omega
        · rw [hB] at hle hx hy; omega
      have hE2 : Ex ≤ Ey + 15 := by rw [hB] at hge hx hy; omega
      exact ⟨54, Ex - Ey - 1, hl, by have : (0 : Nat) < 2 ^ 53 := by decide
                                     omega, by omega, by omega⟩
  obtain ⟨L, e, hl, hn, he, hpl⟩ := hL
  obtain ⟨k, hk, hnr⟩ := near (2 * q + t) (-1074 + ((Ex : Int) - 1) - (-1074 + ((Ey : Int) - 1)) - (54 : Nat) - 1) hn (by rw [hl, hpl]; omega) (by rw [hl, hpl]; omega)
  rw [hl, hpl] at hnr
  obtain ⟨E', k', s1, s2, s3, s4⟩ := split_word ((e : Int) + 1023).toNat k hk
  refine ⟨E' - 1023, k', by omega, s1, ?_⟩
  show some (double.nearest (false ^^ false) _ _) = _
  rw [show (false ^^ false) = false from rfl, hnr, s2, show 1023 + (E' - 1023) = E' by omega]
theorem exact_word (m : Nat) (h : m ≠ 0) (hL : m.log2 ≤ 52) : double.nearest false m 0 = (m.log2 + 1023) * B + (m * 2 ^ (52 - m.log2) - B) := by
  obtain ⟨hl, hu⟩ := log_pos m h
  unfold Format.nearest
  rw [if_neg h]
  dsimp only
  rw [frac, least, binade, inf_]
  generalize m.log2 = L at *
  have hlast : max ((0 : Int) + (L : Int) - (52 : Nat)) (-1074) = (L : Int) - 52 := by omega
  rw [hlast, show ((0 : Int) - ((L : Int) - 52)).toNat = 52 - L by omega, show ((L : Int) - 52 - 0).toNat = 0 by omega, show ((L : Int) - 52 - -1074).toNat = L + 1022 by omega, cut_zero, Nat.shiftLeft_eq]
  have a1 : 2 ^ L * 2 ^ (52 - L) = B := by rw [← Nat.pow_add, show L + (52 - L) = 52 by omega]; rfl
  have a2 : 2 ^ (L + 1) * 2 ^ (52 - L) = 2 * B := by rw [Nat.pow_succ, Nat.mul_comm (2 ^ L) 2, Nat.mul_assoc, a1]
  have b1 : B ≤ m * 2 ^ (52 - L) := by rw [← a1]; exact Nat.mul_le_mul_right _ hl
  have b2 : m * 2 ^ (52 - L) < 2 * B := by rw [← a2]; exact Nat.mul_lt_mul_of_pos_right hu (Nat.two_pow_pos _)
  have hB : B = 4503599627370496 := rfl
  have e5 : (L + 1023) * B = (L + 1022) * B + B := Nat.succ_mul (L + 1022) B
  unfold Format.word
  rw [if_neg (by simp), Nat.min_eq_left]
  · omega
  · rw [hB] at b2 ⊢
    omega
theorem ratio (v u : Nat) (hu0 : u ≠ 0) (huv : u ≤ v) (hul : u.log2 ≤ 52) (hL : v.log2 ≤ u.log2 + 13) (hv : v.log2 ≤ 63) :
    ∃ e f, e ≤ 15 ∧ f < B ∧ double.div (double.write (.number false v 0)) (double.write (.number false u 0)) = some ((1023 + e) * B + f) := by
  have hv0 : v ≠ 0 := by omega
  show ∃ e f, e ≤ 15 ∧ f < B ∧ double.div (double.nearest false v 0) (double.nearest false u 0) = some ((1023 + e) * B + f)
  obtain ⟨kv, hkv, hwv⟩ := near v 0 hv0 (by omega) (by omega)
  obtain ⟨ku, hku, hwu⟩ := near u 0 hu0 (by omega) (by omega)
  rw [show ((0 : Int) + v.log2 + 1023).toNat = v.log2 + 1023 by omega] at hwv
  rw [show ((0 : Int) + u.log2 + 1023).toNat = u.log2 + 1023 by omega] at hwu
  have hB : B = 4503599627370496 := rfl
  have hlu : u.log2 ≤ v.log2 := by
    rcases Nat.lt_or_ge v.log2 u.log2 with h | h
    · have h1 := (log_pos v hv0).2
      have h2 := (log_pos u hu0).1
      have h3 : 2 ^ (v.log2 + 1) ≤ 2 ^ u.log2 := Nat.pow_le_pow_right (by omega) h
      omega
    · exact h
  have hle : double.nearest false u 0 ≤ double.nearest false v 0 := by
    rcases Nat.lt_or_ge u.log2 v.log2 with h | h
    · rw [hwv, hwu]
      rw [hB] at hkv hku ⊢
      omega
    · have he : v.log2 = u.log2 := by omega
      have m1 : u * 2 ^ (52 - u.log2) ≤ v * 2 ^ (52 - u.log2) := Nat.mul_le_mul_right _ huv
      rw [exact_word u hu0 hul, exact_word v hv0 (by omega), he]
      omega
  have hge : double.nearest false v 0 ≤ double.nearest false u 0 + 14 * B := by
    rw [hwv, hwu]
    rw [hB] at hkv hku ⊢
    omega
  obtain ⟨Ev, k1, a1, a2, a3, a4⟩ := split_word (v.log2 + 1023) kv hkv
  obtain ⟨Eu, k2, b1, b2, b3, b4⟩ := split_word (u.log2 + 1023) ku hku
  rw [hwv, a2] at hle hge ⊢
  rw [hwu, b2] at hle hge ⊢
  exact quot Ev k1 Eu k2 a1 b1 (by omega) (by omega) (by omega) (by omega) hle hge
end Go.Proofs.Ytgemoagbefdemaa.UnA
