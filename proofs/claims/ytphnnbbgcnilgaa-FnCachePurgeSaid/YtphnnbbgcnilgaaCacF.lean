/-
  Proved: the hit rate of a cache. Conditions: at most 400 hits and misses.
-/
import Derived.Test.YtphnnbbgcnilgaaCacT
import Derived.Laws.FloatArith
namespace Go.Proofs.Ytphnnbbgcnilgaa.CacF
open Go Go.RowKit Go.Proofs.YtphnnbbgcnilgaaW.PrintWords Go.Proofs.Ytphnnbbgcnilgaa.Common Go.Proofs.Ytphnnbbgcnilgaa.IMapN Go.Proofs.Ytphnnbbgcnilgaa.CacA Go.Proofs.Ytphnnbbgcnilgaa.CacT
set_option linter.unusedVariables false
set_option linter.unusedSimpArgs false
set_option maxRecDepth 1000000
def numb (d : Ieee.Datum) (nz : Bool) : Bool := match d with | .number _ m _ => !nz || m != 0 | _ => false
def bitsOf (n : Nat) : Nat := Ieee.double.nearest false n 0
theorem finite : ((List.range 401).all fun n => numb (Ieee.double.read (bitsOf n)) (n != 0)) = true := by kernel_rfl
theorem finite_at (n : Nat) (h : n ≤ 400) : numb (Ieee.double.read (bitsOf n)) (n != 0) = true := List.all_eq_true.1 finite n (List.mem_range.2 (by omega))
theorem read_word (neg : Bool) (r : Nat) (h : r ≤ Ieee.double.infRung) : (Ieee.double.read (Ieee.double.word neg r)).isNaN = false := by
  have hs : Ieee.double.infRung < Ieee.double.signWeight := by decide
  have hm : Ieee.double.word neg r % Ieee.double.signWeight = r := by
    unfold Ieee.Format.word
    split
    · rw [Nat.add_mod_left, Nat.mod_eq_of_lt (by omega)]
    · rw [Nat.mod_eq_of_lt (by omega)]
  unfold Ieee.Format.read
  dsimp only
  rw [hm]
  split
  · rfl
  · split
    · rfl
    · rw [if_pos (by omega)]; rfl
theorem write_num (neg : Bool) (m : Nat) (p : Int) : (Ieee.double.read (Ieee.double.write (.number neg m p))).isNaN = false := by
  unfold Ieee.Format.write
  dsimp only
  unfold Ieee.Format.nearest
  split
  · exact read_word _ _ (Nat.zero_le _)
  · exact read_word _ _ (Nat.min_le_right _ _)
theorem order_self (r : Nat) (h : (Ieee.double.read r).isNaN = false) : Ieee.double.order r r = some .eq := by
  unfold Ieee.Format.order
  cases hd : Ieee.double.read r with
  | nan s f => rw [hd] at h; cases h
  | infinity s => cases s <;> rfl
  | number s m p =>
    simp only [Ieee.Datum.order]
    have hc : ∀ a : Int, compare a a = .eq := fun a => by simp [compare, compareOfLessAndEq]
    rw [hc]
theorem div_ok (h t : Nat) (hh : h ≤ 400) (ht : t ≤ 400) (h0 : t ≠ 0) : ∃ r, Ieee.double.div (bitsOf h) (bitsOf t) = some r ∧ Ieee.double.order r r = some .eq := by
  have h1 := finite_at h hh
  have h2 := finite_at t ht
  have ht0 : (t != 0) = true := by simpa using h0
  rw [ht0] at h2
  unfold Ieee.Format.div
  cases hd1 : Ieee.double.read (bitsOf h) with
  | nan s f => rw [hd1] at h1; cases h1
  | infinity s => rw [hd1] at h1; cases h1
  | number s m p =>
    cases hd2 : Ieee.double.read (bitsOf t) with
    | nan s f => rw [hd2] at h2; cases h2
    | infinity s => rw [hd2] at h2; cases h2
    | number s2 m2 p2 =>
      rw [hd2] at h2
      have hm : m2 ≠ 0 := by simpa [numb] using h2
      simp only [Ieee.Datum.quotient, if_neg hm, Option.map_some]
      exact ⟨_, rfl, order_self _ (write_num _ _ _)⟩
/-- the rate's bits -/
def rateF (h m : Int) : Nat := if h + m = 0 then 0 else (Ieee.double.div (bitsOf h.toNat) (bitsOf (h + m).toNat)).getD 0
theorem bits_of (n : Int) (h : 0 ≤ n) : floatOfInt .f64 n = bitsOf n.toNat := by
  have : decide (n < 0) = false := decide_eq_false (by omega)
  have e : n.natAbs = n.toNat := by omega
  show Ieee.double.write (.number (decide (n < 0)) n.natAbs 0) = _
  rw [this, e]; rfl
theorem rate_eq (h m : Int) (h0 : 0 ≤ h) (m0 : 0 ≤ m) (hs : h + m ≤ 400) : Ieee.double.order (rateF h m) (rateF h m) = some .eq := by
  unfold rateF
  split
  · exact order_self 0 (by decide)
  · obtain ⟨r, hr, ho⟩ := div_ok h.toNat (h + m).toNat (by omega) (by omega) (by omega)
    rw [hr]; exact ho
set_option maxHeartbeats 1000000 in
theorem rate_e {ev : Value} {C m : Nat} {n hits miss : Int} {l : List E} {w : World} (h : CS ev C n m hits miss l w) (h0 : 0 ≤ hits) (m0 : 0 ≤ miss) (hs : hits + miss ≤ 400) :
    Calls Try.prog 38 #[.pointer (some ⟨C, 0, none⟩)] w fun e w' => e = .returned (.float .f64 (rateF hits miss)) ∧ w' = w := by
  have q5 : w.cell? ⟨C, 5, none⟩ = some (.int .i64 hits) := (blk_cell h.dl.hd 5).trans rfl
  have q6 : w.cell? ⟨C, 6, none⟩ = some (.int .i64 miss) := (blk_cell h.dl.hd 6).trans rfl
  have hb1 : hits ≤ 1000 := by omega
  have hb2 : miss ≤ 1000 := by omega
  clear h
  by_cases hz : hits + miss = 0
  · have HR : Aside0 (rateF hits miss = 0) := ⟨by unfold rateF; rw [if_pos hz]⟩
    obtain rfl : hits = 0 := by omega
    obtain rfl : miss = 0 := by omega
    clear hz
    go_enter Try.func38, Try.ntmps38
    go_wp2
    go_ret
    exact ⟨by rw [HR.out]; rfl, rfl⟩
  · have hd : decide (hits + miss = 0) = false := decide_eq_false hz
    have hd2 : (hits + miss == 0) = false := by simpa using hz
    obtain ⟨r, hr, _⟩ := div_ok hits.toNat (hits + miss).toNat (by omega) (by omega) (by omega)
    have HR : Aside0 (rateF hits miss = r) := ⟨by unfold rateF; rw [if_neg hz, hr]; rfl⟩
    have hq : (binOp .quo 39 (.float .f64 (floatOfInt .f64 hits)) (.float .f64 (floatOfInt .f64 (hits + miss)))).run Try.prog w = .ok (.float .f64 r) w := by
      refine run_float_arith w .quo 39 .f64 _ _ r ?_
      rw [bits_of _ h0, bits_of _ (by omega)]
      exact hr
    clear hr
    go_enter Try.func38, Try.ntmps38
    go_wp2
    go_ret
    exact ⟨by rw [HR.out]; rfl, rfl⟩
end Go.Proofs.Ytphnnbbgcnilgaa.CacF
