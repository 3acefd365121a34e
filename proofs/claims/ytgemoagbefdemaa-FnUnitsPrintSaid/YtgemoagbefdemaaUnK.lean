/-
  Proved: what progress.formatNumber returns, as a plain function of the value and of the map's texts. Conditions: as told.
-/
import Derived.Test.YtgemoagbefdemaaUnJ
import Derived.Test.YtgemoagbefdemaaIMap
import Derived.Test.YtgemoagbefdemaaItoaAll
import Derived.Test.YtgemoagbefdemaaUnA
import Derived.Laws.FloatArith
namespace Go.Proofs.Ytgemoagbefdemaa.UnK
open Go.RowKit Go.Proofs.YtgemoagbefdemaaW.PrintWords Go.Proofs.Ytgemoagbefdemaa.Common Go.Proofs.Ytgemoagbefdemaa.GEU Go.Proofs.Ytgemoagbefdemaa.UnI Go.Proofs.Ytgemoagbefdemaa.UnJ Go.Proofs.Ytgemoagbefdemaa.IMap Go.Proofs.Ytgemoagbefdemaa.ItoaAll
set_option linter.unusedVariables false
set_option linter.unusedSimpArgs false
set_option maxRecDepth 1000000
def sc : List Int := [1000000000000000, 1000000000000, 1000000000, 1000000, 1000]
/-- the word of the ratio -/
def wrd (v u : Int) : Option Nat := floatBits BinOp.quo .f64 (floatOfInt .f64 v) (floatOfInt .f64 u)
def rt (v u : Int) : ByteArray :=
  match wrd v u with
  | some b => ftext (4503599627370496 + b % 4503599627370496) (52 - (b / 4503599627370496 - 1023))
  | none => ⟨#[]⟩
def fgo (f : Int → ByteArray) (v : Int) : List Int → ByteArray
  | [] => ofL (itoaL v) ++ f 0
  | u :: us => if u ≤ v then rt v u ++ f u else fgo f v us
theorem wrd_of (v u : Nat) (hu0 : u ≠ 0) (huv : u ≤ v) (hul : u.log2 ≤ 52) (hL : v.log2 ≤ u.log2 + 13) (hv : v.log2 ≤ 63) :
    ∃ e f, e ≤ 15 ∧ f < 4503599627370496 ∧ wrd v u = some ((1023 + e) * 4503599627370496 + f) := by
  obtain ⟨e, f, h1, h2, h3⟩ := UnA.ratio v u hu0 huv hul hL hv
  refine ⟨e, f, h1, h2, ?_⟩
  have n1 : decide ((v : Int) < 0) = false := decide_eq_false (by omega)
  have n2 : decide ((u : Int) < 0) = false := decide_eq_false (by omega)
  unfold wrd
  show floatBits BinOp.quo FloatKind.f64 (FloatKind.f64.nearest v) (FloatKind.f64.nearest u) = _
  unfold FloatKind.nearest
  rw [n1, n2, Int.natAbs_natCast, Int.natAbs_natCast]
  exact h3
theorem log_le (v k : Nat) (h0 : v ≠ 0) (h : v < 2 ^ (k + 1)) : v.log2 ≤ k := Nat.lt_succ_iff.1 ((Nat.log2_lt h0).2 h)
theorem wrd_sc (v : Nat) (hv : v < 9223372036854775808) (i : Nat) (hi : i < 5) (h : sc.getD i 0 ≤ v) (hp : ∀ p, i = p + 1 → (v : Int) < sc.getD p 0) :
    ∃ e f, e ≤ 15 ∧ f < 4503599627370496 ∧ wrd v (sc.getD i 0) = some ((1023 + e) * 4503599627370496 + f) := by
  rcases (show i = 0 ∨ i = 1 ∨ i = 2 ∨ i = 3 ∨ i = 4 by omega) with rfl | rfl | rfl | rfl | rfl
  · change (1000000000000000 : Int) ≤ v at h
    exact wrd_of v 1000000000000000 (by decide) (by omega) (by decide) (Nat.le_trans (log_le v 62 (by omega) (by omega)) (by decide)) (Nat.le_trans (log_le v 62 (by omega) (by omega)) (by decide))
  · change (1000000000000 : Int) ≤ v at h
    have := hp 0 rfl
    change (v : Int) < 1000000000000000 at this
    exact wrd_of v 1000000000000 (by decide) (by omega) (by decide) (Nat.le_trans (log_le v 49 (by omega) (by omega)) (by decide)) (Nat.le_trans (log_le v 62 (by omega) (by omega)) (by decide))
  · change (1000000000 : Int) ≤ v at h
    have := hp 1 rfl
    change (v : Int) < 1000000000000 at this
    exact wrd_of v 1000000000 (by decide) (by omega) (by decide) (Nat.le_trans (log_le v 39 (by omega) (by omega)) (by decide)) (Nat.le_trans (log_le v 62 (by omega) (by omega)) (by decide))
  · change (1000000 : Int) ≤ v at h
    have := hp 2 rfl
    change (v : Int) < 1000000000 at this
    exact wrd_of v 1000000 (by decide) (by omega) (by decide) (Nat.le_trans (log_le v 29 (by omega) (by omega)) (by decide)) (Nat.le_trans (log_le v 62 (by omega) (by omega)) (by decide))
  · change (1000 : Int) ≤ v at h
    have := hp 3 rfl
    change (v : Int) < 1000000 at this
    exact wrd_of v 1000 (by decide) (by omega) (by decide) (Nat.le_trans (log_le v 19 (by omega) (by omega)) (by decide)) (Nat.le_trans (log_le v 62 (by omega) (by omega)) (by decide))
theorem rt_of {v u : Int} {e f : Nat} (he : e ≤ 15) (hf : f < 4503599627370496) (h : wrd v u = some ((1023 + e) * 4503599627370496 + f)) : rt v u = ftext (4503599627370496 + f) (52 - e) := by
  unfold rt
  rw [h]
  dsimp only
  rw [show ((1023 + e) * 4503599627370496 + f) % 4503599627370496 = f by omega, show ((1023 + e) * 4503599627370496 + f) / 4503599627370496 - 1023 = e by omega]
theorem ft_size (e f : Nat) (he : e ≤ 15) (hf : f < 4503599627370496) : (ftext (4503599627370496 + f) (52 - e)).size ≤ 100 := by
  have hkp : 2 ^ (52 - e) ≤ 4503599627370496 + f := Nat.le_trans (UnC.pow_lt (52 - e) (by omega)) (by omega)
  obtain ⟨i0, n0, out, HH⟩ := half_some (4503599627370496 + f) (52 - e) (by omega) (by omega) hkp
  exact ftext_size (by omega) HH
theorem drop_at (i : Nat) (hi : i < 5) : sc.drop i = sc.getD i 0 :: sc.drop (i + 1) := by
  rcases (show i = 0 ∨ i = 1 ∨ i = 2 ∨ i = 3 ∨ i = 4 by omega) with rfl | rfl | rfl | rfl | rfl <;> rfl
theorem sc_range (i : Nat) (hi : i < 5) : 1000 ≤ sc.getD i 0 ∧ sc.getD i 0 ≤ 1000000000000000 := by
  rcases (show i = 0 ∨ i = 1 ∨ i = 2 ∨ i = 3 ∨ i = 4 by omega) with rfl | rfl | rfl | rfl | rfl <;> exact ⟨by decide, by decide⟩
theorem zstr (w : World) : (zeroValue 9).run Try.prog w = .ok (.string ⟨#[]⟩) w := by kernel_rfl
/-- the map's values are texts -/
def txm (f : Int → ByteArray) (k : Int) : Option Value := if k = 0 ∨ k ∈ sc then some (.string (f k)) else none
theorem txm_sc (f : Int → ByteArray) (i : Nat) (hi : i < 5) : txm f (sc.getD i 0) = some (.string (f (sc.getD i 0))) := by
  unfold txm
  rw [if_pos (Or.inr ?_)]
  rcases (show i = 0 ∨ i = 1 ∨ i = 2 ∨ i = 3 ∨ i = 4 by omega) with rfl | rfl | rfl | rfl | rfl <;> decide
theorem txm_0 (f : Int → ByteArray) : txm f 0 = some (.string (f 0)) := by
  unfold txm
  rw [if_pos (Or.inl rfl)]
set_option maxHeartbeats 8000000 in
theorem fn_c (f : Int → ByteArray) (hf : ∀ k, (f k).size ≤ 10) (v : Int) (hv0 : -9223372036854775808 ≤ v) (hv1 : v ≤ 9223372036854775807) (b : Nat) (w : World) (hm : imap w .i64 b (txm f)) :
    Calls Try.prog 10 #[.int .i64 v, .map (some b)] w fun e w' => e = .returned (.string (fgo f v sc)) ∧ Below w.heap.size w w' := by
  have HSC : ∀ w : World, Aside0 (Calls Try.prog 11 #[] w fun e w' => ∃ g c, e = .returned (.slice (some ⟨g, 0, none⟩) 5 c) ∧ Kd.R (Kd.int .i64) 2 w' w.heap.size (fun _ => True) (.slice (some ⟨g, 0, none⟩) 5 c) sc ∧ Below w.heap.size w w') := fun w =>
    ⟨(progress_unitScales.calls sc w rfl).mono (by rintro e w' ⟨v0, rfl, hr, hb⟩; obtain ⟨g2, cap, rfl, hgb, hgl, X9, hty⟩ := Kd.R_form hr (by decide); exact ⟨g2, cap, rfl, hr, hb⟩)⟩
  have HM := Aside0.mk hm
  have HV := Aside0.mk (And.intro hv0 hv1)
  have hlb : b < w.heap.size := imap_lt hm
  clear hm hv0 hv1
  go_enter Try.func10, Try.ntmps10
  go_wp2_with (go_at_call 11; refine (HSC _).out.mono ?_; rintro r w2 ⟨g2, c2, rfl, hr2, hb2⟩; have HR2 := Aside0.mk hr2; have HB2 := Aside0.mk hb2; clear hr2 hb2)
  go_loopg [9] 5 (fun gk s9 wr => ∃ i : Nat, s9 = .int .i64 i ∧ i ≤ 5 ∧ gk = 5 - i ∧ wr = w2 ∧ Aside0 (fgo f v (sc.drop i) = fgo f v sc) ∧ Aside0 (∀ p, i = p + 1 → v < sc.getD p 0))
  case atStart => exact ⟨0, rfl, by omega, rfl, rfl, ⟨rfl⟩, ⟨fun p h => by omega⟩⟩
  case round =>
    obtain ⟨i, rfl, hi5, rfl, rfl, HF, HP⟩ := hrel
    by_cases hi : i < 5
    · have d1 : decide ((i : Int) < 5) = true := decide_eq_true (by omega)
      have hx := (Kd.R_celln (0 : Int) HR2.out (i : Int) (by omega) (by show (i : Int) < 5; omega)).1
      rw [Int.toNat_natCast] at hx
      have hs := sc_range i hi
      have hrd : rdOf 0 sc (i : Int) = sc.getD i 0 := by simp [rdOf]
      change wr.cell? _ = some (.int .i64 (rdOf 0 sc (i : Int))) at hx
      rw [hrd] at hx
      have hl0 : (0 : Int) ≤ (i : Int) := by omega
      have hl1 : (i : Int) < 5 := by omega
      have HS := Aside0.mk hs
      have HI := Aside0.mk hi
      obtain ⟨u, hu⟩ : ∃ u, u = sc.getD i 0 := ⟨_, rfl⟩
      rw [← hu] at hx
      have HU := Aside0.mk hu
      clear hs hrd hu
      by_cases hvu : u ≤ v
      · have d2 : decide (v ≥ u) = true := decide_eq_true hvu
        have HVU := Aside0.mk hvu
        clear hvu
        obtain ⟨vn, rfl⟩ := Int.eq_ofNat_of_zero_le (show 0 ≤ v by have := HS.out; have := HU.out; have := HVU.out; omega)
        obtain ⟨e, fr, he, hfr, hw⟩ := wrd_sc vn (by have := HV.out; omega) i hi (by rw [← HU.out]; exact HVU.out) HP.out
        have hrt := rt_of he hfr hw
        rw [← HU.out] at hw hrt
        have hlk := fun W (hW : imap W .i64 b (txm f)) => imap_lookup (P := Try.prog) hW Try.underlying30 Try.underlying2 (zstr W) u (WalkArith.wf_i64 (by have := HS.out; have := HU.out; omega)) false
        have ht := txm_sc f i hi
        rw [← HU.out] at ht
        rw [ht] at hlk
        have HLK := Aside0.mk hlk
        have hl1 := hlk (wr.drew) (imap_drew (imap_below HM.out HB2.out hlb))
        have hl2 := hlk wr (imap_below HM.out HB2.out hlb)
        have hq := fun w => run_float_arith (P := Try.prog) (w := w) BinOp.quo 34 .f64 (floatOfInt .f64 (vn : Int)) (floatOfInt .f64 u) _ hw
        have HFI := fun w => Aside0.mk (float_c e fr he hfr w)
        have hz : (f u).size ≤ 10 := hf u
        have hz2 : (ftext (4503599627370496 + fr) (52 - e)).size ≤ 100 := ft_size e fr he hfr
        have hz3 : ¬ (9223372036854775807 < (ftext (4503599627370496 + fr) (52 - e)).size + (f u).size) := by omega
        have HEQ : Aside0 (ftext (4503599627370496 + fr) (52 - e) ++ f u = fgo f vn sc) := ⟨by rw [← HF.out, drop_at i hi, ← HU.out, fgo, if_pos HVU.out, hrt]⟩
        obtain ⟨T, hT⟩ : ∃ T, T = ftext (4503599627370496 + fr) (52 - e) := ⟨_, rfl⟩
        obtain ⟨bb, hbb⟩ : ∃ bb, bb = (1023 + e) * 4503599627370496 + fr := ⟨_, rfl⟩
        rw [← hT, ← hbb] at HFI
        rw [← hbb] at hq
        rw [← hT] at hz2 hz3 HEQ
        clear hlk hrt hw ht hT hbb he hfr
        go_upto_region 5 with (fail)
        go_region_with (go_at_call 12; refine (HFI _).out.mono ?_; rintro r w3 ⟨rfl, hb3⟩; have hl3 := HLK.out w3 (imap_below (imap_drew (imap_below HM.out HB2.out hlb)) hb3 (by show b < wr.heap.size; have := HB2.out.size; omega)); have HB3 := Aside0.mk hb3; clear hb3)
        all_goals (
          go_wp2
          go_ret
          exact ⟨by rw [← HEQ.out]; rfl, HB2.out.trans (((below_drew1 (Below.refl wr.heap.size wr)).trans HB3.out).mono HB2.out.size)⟩)
      · have d2 : decide (v ≥ u) = false := decide_eq_false hvu
        have HVU := Aside0.mk hvu
        clear hvu
        go_wp2
        go_roundg (5 - (i + 1))
        case measure => omega
        case rel => exact ⟨i + 1, by push_cast; rfl, by omega, rfl, rfl, ⟨by rw [← HF.out, drop_at i hi, fgo, if_neg (by rw [← HU.out]; have := HVU.out; omega)]⟩, ⟨fun p hp => by rw [show p = i by omega, ← HU.out]; have := HVU.out; omega⟩⟩
    · have d1 : decide ((i : Int) < 5) = false := decide_eq_false (by omega)
      have hlk := fun W (hW : imap W .i64 b (txm f)) => imap_lookup (P := Try.prog) hW Try.underlying30 Try.underlying2 (zstr W) 0 (by decide) false
      have HLK := Aside0.mk hlk
      have hl1 := hlk (wr.drew) (imap_drew (imap_below HM.out HB2.out hlb))
      have hl2 := hlk wr (imap_below HM.out HB2.out hlb)
      rw [txm_0] at hl1 hl2
      have HFI := fun w => Aside0.mk (fmtInt v HV.out.1 HV.out.2 w)
      have hz : (f 0).size ≤ 10 := hf 0
      have hz2 : (ofL (itoaL v)).size ≤ 21 := by show (itoaL v).toArray.size ≤ 21; rw [List.size_toArray]; exact itoaL_len v HV.out.1 HV.out.2
      have hz3 : ¬ (9223372036854775807 < (ofL (itoaL v)).size + (f 0).size) := by omega
      have HEQ : Aside0 (ofL (itoaL v) ++ f 0 = fgo f v sc) := ⟨by rw [← HF.out, show i = 5 by omega]; rfl⟩
      clear hlk
      go_upto_region 7 with (fail)
      go_region_with (go_at_call 13; refine (HFI _).out.mono ?_; rintro r w3 ⟨rfl, hb3⟩; have hl3 := HLK.out w3 (imap_below (imap_drew (imap_below HM.out HB2.out hlb)) hb3 (by show b < wr.heap.size; have := HB2.out.size; omega)); rw [txm_0] at hl3; have HB3 := Aside0.mk hb3; clear hb3)
      all_goals (
        go_wp2
        go_ret
        exact ⟨by rw [← HEQ.out]; rfl, HB2.out.trans (((below_drew1 (Below.refl wr.heap.size wr)).trans HB3.out).mono HB2.out.size)⟩)
end Go.Proofs.Ytgemoagbefdemaa.UnK
