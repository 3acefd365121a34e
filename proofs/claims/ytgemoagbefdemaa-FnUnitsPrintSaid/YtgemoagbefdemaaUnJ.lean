/-
  Proved: FormatFloat of a float from 1 to 2^16, with two digits behind the point. Conditions: as told.
-/
import Derived.Test.YtgemoagbefdemaaUnI
import Derived.Laws.FloatBits
namespace Go.Proofs.Ytgemoagbefdemaa.UnJ
open Go.RowKit Go.Proofs.YtgemoagbefdemaaW.PrintWords Go.Proofs.Ytgemoagbefdemaa.Common Go.Proofs.Ytgemoagbefdemaa.GEU Go.Proofs.Ytgemoagbefdemaa.UnB Go.Proofs.Ytgemoagbefdemaa.UnC Go.Proofs.Ytgemoagbefdemaa.UnD Go.Proofs.Ytgemoagbefdemaa.UnE Go.Proofs.Ytgemoagbefdemaa.UnF Go.Proofs.Ytgemoagbefdemaa.UnG Go.Proofs.Ytgemoagbefdemaa.UnH Go.Proofs.Ytgemoagbefdemaa.UnI
set_option linter.unusedVariables false
set_option linter.unusedSimpArgs false
set_option maxRecDepth 1000000
theorem bits15 (b : Nat) (w : World) : Sem.run Try.prog (callFunc 15 #[.float .f64 b]) w = .ok (.value (.int .u64 b)) w := by
  rfl
theorem and_low16 : ∀ e : Fin 16, bits BinOp.and IntKind.i64 ((1023 + e.val : Nat) : Int) 2047 = ((1023 + e.val : Nat) : Int) := by decide
theorem and_low (e : Nat) (he : e ≤ 15) : bits BinOp.and IntKind.i64 ((1023 + e : Nat) : Int) 2047 = ((1023 + e : Nat) : Int) := and_low16 ⟨e, by omega⟩
theorem and_mant (E f : Nat) (hE : E ≤ 2000) (hf : f < 4503599627370496) : bits BinOp.and IntKind.u64 ((E * 4503599627370496 + f : Nat) : Int) 4503599627370495 = (f : Int) := by
  have h := bits_and_u64_nat (E * 4503599627370496 + f) 4503599627370495 (by omega) (by omega)
  have h2 : (E * 4503599627370496 + f) &&& 4503599627370495 = f := by
    have := Nat.and_two_pow_sub_one_eq_mod (E * 4503599627370496 + f) 52
    rw [show (2 : Nat) ^ 52 - 1 = 4503599627370495 by decide] at this
    rw [this]
    omega
  rw [h2] at h
  exact h
theorem or_mant (f : Nat) (hf : f < 4503599627370496) : bits BinOp.or IntKind.u64 (f : Int) 4503599627370496 = ((4503599627370496 + f : Nat) : Int) := by
  have h := bits_or_u64_nat f 4503599627370496 (by omega) (by omega)
  have h2 : f ||| 4503599627370496 = 4503599627370496 + f := by
    have := Nat.two_pow_add_eq_or_of_lt (i := 52) (b := f) (by omega) 1
    rw [show (2 : Nat) ^ 52 * 1 = 4503599627370496 by decide] at this
    rw [Nat.or_comm]
    exact this.symm
  rw [h2] at h
  exact h
set_option maxHeartbeats 8000000 in
theorem float_c (e f : Nat) (he : e ≤ 15) (hf : f < 4503599627370496) (w : World) :
    Calls Try.prog 12 #[.float .f64 ((1023 + e) * 4503599627370496 + f), .int .u8 102, .int .i64 2, .int .i64 64] w fun r w' => r = .returned (.string (ftext (4503599627370496 + f) (52 - e))) ∧ Below w.heap.size w w' := by
  obtain ⟨b, hb⟩ : ∃ b, b = (1023 + e) * 4503599627370496 + f := ⟨_, rfl⟩
  rw [← hb]
  have HBE := Aside0.mk hb
  have hb15 := fun w => bits15 b w
  have HF := fun w => Aside0.mk (lightstrconv_formOf.calls 64 52 11 (-1023) w rfl)
  have s1 : ((b : Int) / 9223372036854775808 != 0) = false := by
    have : (b : Int) / 9223372036854775808 = 0 := by omega
    rw [this]
    rfl
  clear hb
  go_enter Try.func12, Try.ntmps12
  go_wp2_with (go_at_call 16; refine (HF _).out.mono ?_; rintro r w2 ⟨rfl, hb2⟩; have HB2 := Aside0.mk hb2; clear hb2)
  obtain ⟨w3, hw3⟩ : ∃ w3, w3 = w2.alloc (.cells #[.int .i64 52, .int .i64 11, .int .i64 (-1023)] 42 (0, 0)) := ⟨_, rfl⟩
  rw [← hw3]
  obtain ⟨fp, hfp⟩ : ∃ fp, fp = w2.heap.size := ⟨_, rfl⟩
  have hblk : w3.heap[fp]? = some (.cells #[.int .i64 52, .int .i64 11, .int .i64 (-1023)] 42 (0, 0)) := by rw [hw3, hfp]; exact heap_alloc_new w2 _
  have c0 : w3.cell? ⟨fp, 0, none⟩ = some (.int .i64 52) := (blk_cell hblk 0).trans rfl
  have c1 : w3.cell? ⟨fp, 1, none⟩ = some (.int .i64 11) := (blk_cell hblk 1).trans rfl
  have c2 : w3.cell? ⟨fp, 2, none⟩ = some (.int .i64 (-1023)) := (blk_cell hblk 2).trans rfl
  have HB3 : Aside0 (Below w.heap.size w w3) := ⟨by rw [hw3]; exact below_alloc HB2.out _⟩
  have HBL := Aside0.mk hblk
  rw [← hfp]
  clear hw3 hfp hblk HB2 HF hb15 s1
  go_quiet (fail)
  have hE0 : (b : Int) / 4503599627370496 = ((1023 + e : Nat) : Int) := by
    have := HBE.out
    omega
  have hE1 : wrap64 ((b : Int) / 4503599627370496) = ((1023 + e : Nat) : Int) := by
    rw [hE0]
    unfold wrap64
    omega
  have E1 : bits BinOp.and IntKind.i64 (wrap64 ((b : Int) / 4503599627370496)) 2047 = ((1023 + e : Nat) : Int) := by
    rw [hE1]
    exact and_low e he
  have E2 : bits BinOp.and IntKind.u64 (b : Int) 4503599627370495 = (f : Int) := by
    have := and_mant (1023 + e) f (by omega) hf
    rw [← HBE.out] at this
    exact this
  have E3 := or_mant f hf
  obtain ⟨mt, hmt⟩ : ∃ mt, mt = 4503599627370496 + f := ⟨_, rfl⟩
  rw [← hmt] at E3
  have HMT := Aside0.mk hmt
  clear hmt
  rw [E1, E2]
  have hx1 : ((((1023 + e : Nat) : Int)) == 2047) = false := by rw [beq_eq_false_iff_ne]; omega
  have hx2 : ((((1023 + e : Nat) : Int)) == 0) = false := by rw [beq_eq_false_iff_ne]; omega
  have hx3 : ((1023 + e : Nat) : Int) + (-1023) = (e : Int) := by omega
  obtain ⟨X, hX⟩ : ∃ X, X = ((1023 + e : Nat) : Int) := ⟨_, rfl⟩
  rw [← hX] at hx1 hx2 hx3
  rw [← hX]
  obtain ⟨wq, hwq⟩ : ∃ wq, wq = w3.drewN nq := ⟨_, rfl⟩
  have q0 : wq.cell? ⟨fp, 0, none⟩ = some (.int .i64 52) := by rw [hwq]; exact c0
  have q1 : wq.cell? ⟨fp, 1, none⟩ = some (.int .i64 11) := by rw [hwq]; exact c1
  have q2 : wq.cell? ⟨fp, 2, none⟩ = some (.int .i64 (-1023)) := by rw [hwq]; exact c2
  have HBQ : Aside0 (Below w.heap.size w wq) := ⟨by rw [hwq]; exact pw_below_drewN HB3.out nq⟩
  have HBLq : Aside0 (wq.heap[fp]? = some (.cells #[.int .i64 52, .int .i64 11, .int .i64 (-1023)] 42 (0, 0))) := ⟨by rw [hwq]; exact HBL.out⟩
  rw [← hwq]
  clear hwq c0 c1 c2 HB3 HBL E1 E2 hE0 hE1 hX
  have hmt1 : mt = 4503599627370496 + f := HMT.out
  obtain ⟨k, hk⟩ : ∃ k, k = 52 - e := ⟨_, rfl⟩
  have hkp : 2 ^ k ≤ mt := Nat.le_trans (pow_lt k (by omega)) (by omega)
  obtain ⟨i0, n0, out, HH⟩ := half_some mt k (by omega) (by omega) hkp
  have HL := Aside0.mk (dec_len mt (by omega))
  have HI1 := Aside0.mk HH.i1
  have HI2 := Aside0.mk HH.i2
  have HNEW := Aside0.mk (new_c mt (by omega) (Lib.decDigits mt) rfl (dec_digits mt) (by have := HL.out; omega) wq)
  have hdig : ∀ d ∈ trim (val (Lib.decDigits mt)), 0 ≤ d ∧ d ≤ 9 := fun d h => val_digits mt d (trim_mem _ d h)
  have hlen : (trim (val (Lib.decDigits mt))).length ≤ 100 := Nat.le_trans (trim_len _) (by rw [val_len]; have := HL.out; omega)
  have hfst : 1 ≤ (trim (val (Lib.decDigits mt))).getD 0 0 := by rw [trim_at]; exact first_val mt (by omega)
  have hdp0 : tdp (val (Lib.decDigits mt)) ((Lib.decDigits mt).length : Int) = ((Lib.decDigits mt).length : Int) := by
    unfold tdp
    rw [if_neg (trim_ne _ (by have := first_val mt (by omega); omega))]
  have hft : (trim out).getD 0 0 ≠ 0 := by rw [trim_at]; exact HH.first
  obtain ⟨P, hP⟩ : ∃ P, P = (Lib.decDigits mt).length - (i0 - 1) := ⟨_, rfl⟩
  have hP1 : 1 ≤ P ∧ P ≤ 20 := by have := HL.out; have := HI1.out; have := HI2.out; omega
  have hdp1 : tdp out (((Lib.decDigits mt).length : Int) - ((i0 : Int) - 1)) = (P : Int) := by
    unfold tdp
    rw [if_neg (trim_ne _ HH.first)]
    have := HI1.out
    have := HI2.out
    omega
  have hto : ∀ d ∈ trim out, 0 ≤ d ∧ d ≤ 9 := fun d h => HH.dig d (trim_mem _ d h)
  have htl : (trim out).length ≤ 200 := Nat.le_trans (trim_len _) (by have := HH.len; omega)
  obtain ⟨Q, hQ⟩ : ∃ Q : Nat, rndP (trim out) (P : Int) (P + 2) = (Q : Int) ∧ 1 ≤ Q ∧ Q ≤ 21 := by
    rcases rnd_point (trim out) hft (P : Int) (P + 2) (by omega) with h | h
    · exact ⟨P, h, by omega, by omega⟩
    · exact ⟨P + 1, by rw [h]; push_cast; rfl, by omega, by omega⟩
  have HRES : Aside0 (ftext mt k = strOfNums (textL (rndD (trim out) (P + 2)) Q 2)) := ⟨by rw [ftext_of HH, ← hP, hQ.1, Int.toNat_natCast]⟩
  have HSZ := Aside0.mk (show (ftext mt k).size ≤ 100 from ftext_size (by omega) HH)
  have HSHF := fun (g : Nat) (v : Value) (W : World) (h : D wq.heap.size wq g v (trim (val (Lib.decDigits mt))) (tdp (val (Lib.decDigits mt)) ((Lib.decDigits mt).length : Int)) W) =>
    Aside0.mk (shift_c (by rw [hdp0] at h; exact h) hdig hlen hfst (by have := HL.out; omega) k (by omega) (by omega) 100 100 i0 n0 out HH.p1 HH.p2 (by omega) (by omega) ((e : Int) - 52) (by omega))
  rw [hdp1] at HSHF
  have HRND := fun (g : Nat) (v : Value) (W : World) (h : D wq.heap.size wq g v (trim out) (P : Int) W) =>
    Aside0.mk (round_c h hto (P + 2) htl (by omega) (by omega))
  rw [hQ.1] at HRND
  have HTXT := fun (g : Nat) (v : Value) (W : World) (h : D wq.heap.size wq g v (rndD (trim out) (P + 2)) (Q : Int) W) =>
    Aside0.mk (show Calls Try.prog 24 #[.pointer (some ⟨g, 0, none⟩), .int .i64 2] W fun e w' => e = .returned (.string (strOfNums (textL (rndD (trim out) (P + 2)) Q 2))) ∧ D wq.heap.size wq g v (rndD (trim out) (P + 2)) (Q : Int) w' from text_c Q h (rnd_dig _ hto _) (by omega) 2 (by omega))
  have hfpl : fp < wq.heap.size := (Array.getElem?_eq_some_iff.1 HBLq.out).1
  have hwe : IntKind.i64.wrap ((e : Int) - 52) = (e : Int) - 52 := Go.IntWalk.i64_in _ (by omega)
  have hwp : IntKind.i64.wrap ((P : Int) + 2) = ((P + 2 : Nat) : Int) := by rw [Go.IntWalk.i64_in _ (by omega)]; push_cast; rfl
  have hwp2 : (P : Int) + 2 = ((P + 2 : Nat) : Int) := by push_cast; rfl
  obtain ⟨N, hN⟩ : ∃ N, N = P + 2 := ⟨_, rfl⟩
  rw [← hN] at hwp hwp2 HRND HTXT HRES
  have hN2 : N ≤ 30 := by omega
  clear hN hwp
  have HK := Aside0.mk hk
  have hnw : ∀ W : World, Below wq.heap.size wq W → W.cell? ⟨fp, 0, none⟩ = some (.int .i64 52) := fun W h => (h.cell hfpl).trans q0
  have HNW := Aside0.mk hnw
  have hsz : (strOfNums (textL (rndD (trim out) N) Q 2)).size ≤ 100 := by rw [← HRES.out]; exact HSZ.out
  clear hk hmt1 hkp HH hdig hlen hfst hdp0 hft hP hP1 hdp1 hto htl hQ hfpl hnw hf HL HI1 HI2
  go_upto_region 29 with (fail)
  go_upto_region 30 with (go_at_call 19; with_reducible refine (HNEW.out).mono ?_; rintro r w4 ⟨g4, v4, rfl, hv⟩; have HS1 := HSHF g4 v4 w4 hv; have p0 := HNW.out w4 hv.bel; clear hv)
  go_upto_region 31 with (go_at_call 20; with_reducible refine (HS1.out).mono ?_; rintro r w5 ⟨rfl, v5, hv⟩; have HR1 := HRND g4 v5 w5 hv; have p1 := hv.cells.2.1; have BE5 := Aside0.mk hv.bel; clear hv)
  go_upto_region 50 with (go_at_call 22; with_reducible refine (HR1.out).mono ?_; rintro r w6 ⟨g6, v6, rfl, hv⟩; have HT1 := HTXT g6 v6 w6 hv; clear hv)
  go_wp2_with (go_at_call 24; with_reducible refine (HT1.out).mono ?_; rintro r w7 ⟨rfl, hv⟩; have HD7 := Aside0.mk hv.bel; clear hv)
  go_ret
  refine ⟨?_, HBQ.out.trans (HD7.out.mono HBQ.out.size)⟩
  rw [← HK.out, ← HMT.out, HRES.out]
  show Ending.returned (Value.string ((⟨#[]⟩ : ByteArray) ++ _)) = _
  rw [show (⟨#[]⟩ : ByteArray) = ByteArray.empty from rfl, ByteArray.empty_append]
end Go.Proofs.Ytgemoagbefdemaa.UnJ
