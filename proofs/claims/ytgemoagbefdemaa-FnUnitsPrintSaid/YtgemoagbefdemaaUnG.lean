/-
  Proved: what digit, nearUp and round return. Conditions: digits; as told.
-/
import Derived.Test.YtgemoagbefdemaaUnF
namespace Go.Proofs.Ytgemoagbefdemaa.UnG
open Go.RowKit Go.Proofs.YtgemoagbefdemaaW.PrintWords Go.Proofs.Ytgemoagbefdemaa.Common Go.Proofs.Ytgemoagbefdemaa.GEU Go.Proofs.Ytgemoagbefdemaa.UnB Go.Proofs.Ytgemoagbefdemaa.UnC Go.Proofs.Ytgemoagbefdemaa.UnE Go.Proofs.Ytgemoagbefdemaa.UnF
set_option linter.unusedVariables false
set_option linter.unusedSimpArgs false
set_option maxRecDepth 1000000
def dgt (ds : List Int) (i : Nat) : Int := if i < ds.length then rdOf 0 ds (i : Int) else 0
def near (ds : List Int) (n : Nat) : Bool := if n < ds.length then (if dgt ds n = 5 ∧ n + 1 = ds.length then (if n = 0 then false else Int.tmod (dgt ds (n - 1)) 2 != 0) else decide (5 ≤ dgt ds n)) else false
variable {B g : Nat} {w0 W W1 : World} {v : Value} {ds : List Int} {dp : Int}
theorem dgt_range (hd : ∀ d ∈ ds, 0 ≤ d ∧ d ≤ 9) (i : Nat) : 0 ≤ dgt ds i ∧ dgt ds i ≤ 9 := by
  unfold dgt
  split
  · rename_i hlt
    have e : rdOf 0 ds (i : Int) = ds[i] := by simp [rdOf, List.getD_eq_getElem?_getD, List.getElem?_eq_getElem hlt]
    rw [e]
    exact hd _ (List.getElem_mem hlt)
  · exact ⟨Int.le_refl _, by decide⟩
theorem _root_.Go.Proofs.Ytgemoagbefdemaa.UnB.D.digit {A : Option Addr} {m c : Nat} (h : D B w0 g (.slice A m c) ds dp W) (i : Nat) (hi : i < ds.length) : ∃ g2, A = some ⟨g2, 0, none⟩ ∧ m = ds.length ∧ W.cell? ⟨g2, i, none⟩ = some (.int .u8 (dgt ds i)) := by
  obtain ⟨g2, cap, e, hgb, hgl, X9, hty⟩ := Kd.R_form h.row (by omega)
  injection e with e1 e2 e3
  subst e1
  refine ⟨g2, rfl, e2, ?_⟩
  have hx := (Kd.R_celln (0 : Int) h.row (i : Int) (by omega) (by omega)).1
  rw [Int.toNat_natCast] at hx
  rw [hx]
  unfold dgt
  rw [if_pos hi]
theorem digit_c (h : D B w0 g v ds dp W) (i : Nat) (hi2 : i ≤ 1000) : Calls Try.prog 32 #[.pointer (some ⟨g, 0, none⟩), .int .i64 (i : Int)] W fun e w' => e = .returned (.int .u8 (dgt ds i)) ∧ w' = W := by
  obtain ⟨A, c, rfl⟩ := Kd.R_slice h.row
  obtain ⟨h0, h1, f0, f1⟩ := h.cells
  have d0 : decide ((i : Int) ≥ 0) = true := decide_eq_true (by omega)
  by_cases hi : i < ds.length
  · have d1 : decide (i < ds.length) = true := decide_eq_true hi
    obtain ⟨g2, rfl, hm, hx⟩ := h.digit i hi
    have hl0 : (0 : Int) ≤ (i : Int) := by omega
    have hl1 : (i : Int) < (ds.length : Int) := by omega
    clear h hm
    go_enter Try.func32, Try.ntmps32
    go_wp2
    go_ret
    exact ⟨rfl, rfl⟩
  · have d1 : decide (i < ds.length) = false := decide_eq_false hi
    have e : dgt ds i = 0 := by unfold dgt; rw [if_neg hi]
    rw [e]
    clear h
    go_enter Try.func32, Try.ntmps32
    go_wp2
    go_ret
    exact ⟨rfl, rfl⟩
theorem near_c (h : D B w0 g v ds dp W) (hlen : ds.length ≤ 200) (n : Nat) (hn2 : 1 ≤ n ∧ n ≤ 1000) : Calls Try.prog 31 #[.pointer (some ⟨g, 0, none⟩), .int .i64 (n : Int)] W fun e w' => e = .returned (.bool (near ds n)) ∧ w' = W := by
  obtain ⟨A, c, rfl⟩ := Kd.R_slice h.row
  obtain ⟨h0, h1, f0, f1⟩ := h.cells
  have d0 : decide ((n : Int) < 0) = false := decide_eq_false (by omega)
  by_cases hi : n < ds.length
  · have d1 : decide (ds.length ≤ n) = false := decide_eq_false (by omega)
    obtain ⟨g2, rfl, hm, hx⟩ := h.digit n hi
    have hl0 : (0 : Int) ≤ (n : Int) := by omega
    have hl1 : (n : Int) < (ds.length : Int) := by omega
    have hw1 : IntKind.i64.wrap ((n : Int) + 1) = (n : Int) + 1 := Go.IntWalk.i64_in _ (by omega)
    obtain ⟨x, hxe⟩ : ∃ x, dgt ds n = x := ⟨_, rfl⟩
    have hN : near ds n = if x = 5 ∧ n + 1 = ds.length then (if n = 0 then false else Int.tmod (dgt ds (n - 1)) 2 != 0) else decide (5 ≤ x) := by unfold near; rw [if_pos hi, hxe]
    rw [hxe] at hx
    rw [hN]
    by_cases h5 : x = 5
    · subst h5
      by_cases hl : n + 1 = ds.length
      · rw [if_pos ⟨rfl, hl⟩]
        have d3 : (((n : Int) + 1) == (ds.length : Int)) = true := by rw [beq_iff_eq]; omega
        have hz : ¬ n = 0 := by omega
        · rw [if_neg hz]
          obtain ⟨g3, e3, hm2, hy⟩ := h.digit (n - 1) (by omega)
          injection e3 with e3
          injection e3 with e3
          subst e3
          have hw2 : IntKind.i64.wrap ((n : Int) - 1) = (n : Int) - 1 := Go.IntWalk.i64_in _ (by omega)
          have d4 : decide ((n : Int) > 0) = true := decide_eq_true (by omega)
          have d5 : decide (0 < n) = true := decide_eq_true (by omega)
          have hl2 : (0 : Int) ≤ (n : Int) - 1 := by omega
          have hl3 : (n : Int) - 1 < (ds.length : Int) := by omega
          have ht : ((n : Int) - 1).toNat = n - 1 := by omega
          clear h hm hN hxe hm2
          go_enter Try.func31, Try.ntmps31
          go_wp2
          go_ret
          exact ⟨rfl, rfl⟩
      · rw [if_neg (fun e => hl e.2)]
        have d3 : (((n : Int) + 1) == (ds.length : Int)) = false := by rw [beq_eq_false_iff_ne]; omega
        clear h hm hN hxe
        go_enter Try.func31, Try.ntmps31
        go_wp2
        go_ret
        exact ⟨rfl, rfl⟩
    · rw [if_neg (fun e => h5 e.1)]
      have d3 : (x == 5) = false := by rw [beq_eq_false_iff_ne]; exact h5
      clear h hm hN hxe
      go_enter Try.func31, Try.ntmps31
      go_wp2
      go_ret
      exact ⟨rfl, rfl⟩
  · have d1 : decide (ds.length ≤ n) = true := decide_eq_true (by omega)
    have e : near ds n = false := by unfold near; rw [if_neg hi]
    rw [e]
    clear h
    go_enter Try.func31, Try.ntmps31
    go_wp2
    go_ret
    exact ⟨rfl, rfl⟩
def rndD (ds : List Int) (n : Nat) : List Int := if near ds n then upD ds n else if n < ds.length then trim (ds.take n) else ds
def rndP (ds : List Int) (dp : Int) (n : Nat) : Int := if near ds n then upP ds dp n else if n < ds.length then tdp (ds.take n) dp else dp
theorem near_lt (n : Nat) (h : near ds n = true) : n < ds.length := by
  unfold near at h
  split at h
  · assumption
  · cases h
theorem down_c' (h : D B w0 g v ds dp W) (n : Nat) (hlen : ds.length ≤ 200) (hn : near ds n = false) :
    Calls Try.prog 28 #[.pointer (some ⟨g, 0, none⟩), .int .i64 (n : Int)] W fun e w' => ∃ g' v', e = .returned (.pointer (some ⟨g', 0, none⟩)) ∧ D B w0 g' v' (rndD ds n) (rndP ds dp n) w' := by
  unfold rndD rndP
  rw [hn]
  by_cases hl : n < ds.length
  · rw [if_neg (by decide), if_pos hl, if_neg (by decide), if_pos hl]
    exact down_c h n hlen hl
  · rw [if_neg (by decide), if_neg hl, if_neg (by decide), if_neg hl]
    have H := Aside0.mk h
    obtain ⟨A, c, rfl⟩ := Kd.R_slice h.row
    obtain ⟨h0, h1, f0, f1⟩ := h.cells
    have d1 : decide (ds.length ≤ n) = true := decide_eq_true (by omega)
    clear h
    go_enter Try.func28, Try.ntmps28
    go_wp2
    go_ret
    exact ⟨_, _, rfl, H.out⟩
theorem round_c (h : D B w0 g v ds dp W) (hd : ∀ d ∈ ds, 0 ≤ d ∧ d ≤ 9) (n : Nat) (hlen : ds.length ≤ 200) (hn2 : 1 ≤ n ∧ n ≤ 1000) (hdp : -1000 ≤ dp ∧ dp ≤ 1000) :
    Calls Try.prog 22 #[.pointer (some ⟨g, 0, none⟩), .int .i64 (n : Int)] W fun e w' => ∃ g' v', e = .returned (.pointer (some ⟨g', 0, none⟩)) ∧ D B w0 g' v' (rndD ds n) (rndP ds dp n) w' := by
  have HN := Aside0.mk (near_c h hlen n hn2)
  have d0 : decide ((n : Int) < 0) = false := decide_eq_false (by omega)
  cases hnr : near ds n with
  | false =>
    rw [hnr] at HN
    have HC := Aside0.mk (down_c' h n hlen hnr)
    clear h hd hdp
    go_enter Try.func22, Try.ntmps22
    go_wp2_with (first | (go_at_call 31; refine (HN.out).mono ?_; rintro e w3 ⟨rfl, rfl⟩) | (go_at_call 28; refine (HC.out).mono ?_; rintro e w3 ⟨g', v', rfl, hv3⟩; have HV := Aside0.mk hv3; clear hv3))
    go_ret
    exact ⟨_, _, rfl, HV.out⟩
  | true =>
    have hup := up_c h hd n hlen (near_lt n hnr) hdp
    have e1 : rndD ds n = upD ds n := by unfold rndD; rw [hnr]; rfl
    have e2 : rndP ds dp n = upP ds dp n := by unfold rndP; rw [hnr]; rfl
    rw [e1, e2]
    rw [hnr] at HN
    have HC := Aside0.mk hup
    clear h hd hdp hup e1 e2
    go_enter Try.func22, Try.ntmps22
    go_wp2_with (first | (go_at_call 31; refine (HN.out).mono ?_; rintro e w3 ⟨rfl, rfl⟩) | (go_at_call 29; refine (HC.out).mono ?_; rintro e w3 ⟨g', v', rfl, hv3⟩; have HV := Aside0.mk hv3; clear hv3))
    go_ret
    exact ⟨_, _, rfl, HV.out⟩
end Go.Proofs.Ytgemoagbefdemaa.UnG
