/-
  Proved: impl.HiddenOf lays its configs and hands them to table.ZzHide. Conditions: at most 100 columns; what ZzHide does is a premise here.
-/
import Derived.Test.YtapbnbinoakbhaaGivenGrow
namespace Go.Proofs.Ytapbnbinoakbhaa.HidA
open Go.RowKit Go.Proofs.YtapbnbinoakbhaaW.PrintWords Go.Proofs.Ytapbnbinoakbhaa.Common Go.Proofs.Ytapbnbinoakbhaa.SlcQ Go.Proofs.Ytapbnbinoakbhaa.SlcA Go.Proofs.Ytapbnbinoakbhaa.ZCol Go.Proofs.Ytapbnbinoakbhaa.ZReg Go.Proofs.Ytapbnbinoakbhaa.GivenGrow
set_option linter.unusedVariables false
set_option linter.unusedSimpArgs false
set_option maxRecDepth 1000000

def cfgL (hs : List Bool) : List Value := (hs.map fun b => (cfgV b).toList).flatten
theorem cfgV_len (b : Bool) : (cfgV b).toList.length = 16 := rfl
theorem cfgL_len (hs : List Bool) : (cfgL hs).length = hs.length * 16 := by
  induction hs with
  | nil => rfl
  | cons b t ih =>
    show ((cfgV b).toList ++ cfgL t).length = _
    rw [List.length_append, ih, cfgV_len, List.length_cons, Nat.add_mul]
    omega
theorem cfgL_step (hs : List Bool) (q : Nat) (h : q < hs.length) : cfgL (hs.take q) ++ (cfgV hs[q]).toList = cfgL (hs.take (q + 1)) := by
  unfold cfgL
  rw [List.take_succ_eq_append_getElem h, List.map_append, List.flatten_append]
  simp
theorem cfgL_at : ∀ (hs : List Bool) (j t : Nat) (u : Value) (h : j < hs.length), (cfgV hs[j])[t]? = some u → (cfgL hs)[j * 16 + t]? = some u
  | [], j, t, u, h, _ => absurd h (Nat.not_lt_zero _)
  | b :: r, 0, t, u, h, hu => by
    have ht : t < 16 := (Array.getElem?_eq_some_iff.1 hu).1
    show ((cfgV b).toList ++ cfgL r)[0 * 16 + t]? = some u
    rw [List.getElem?_append_left (by rw [cfgV_len]; omega), Nat.zero_mul, Nat.zero_add]
    simpa using hu
  | b :: r, j + 1, t, u, h, hu => by
    show ((cfgV b).toList ++ cfgL r)[(j + 1) * 16 + t]? = some u
    rw [List.getElem?_append_right (by rw [cfgV_len]; omega), cfgV_len, show (j + 1) * 16 + t - 16 = j * 16 + t by omega]
    exact cfgL_at r j t u (by simpa using h) (by simpa using hu)
theorem oneB (b : Bool) : ∀ u ∈ (cfgV b).toList, u.oneCell' = true := by
  cases b
  · exact one1
  · exact fun u hu => List.all_eq_true.1 (show (cfgV true).toList.all (fun u => u.oneCell') = true from rfl) u hu
set_option maxHeartbeats 8000000 in
theorem impl_c (A0 Ah : Option Addr) (n c0 ch : Nat) (hs : List Bool) (w : World) (hH : Kd.C Kd.bool w Ah hs.length hs) (h100 : hs.length ≤ 100) (R : Value → Value → World → Prop)
    (Z : ∀ (wr : World) (Ac : Option Addr) (cc g : Nat), Below w.heap.size w wr → (0 < hs.length → Ac = some ⟨g, 0, none⟩) → (∀ j t u (h : j < hs.length), (cfgV hs[j])[t]? = some u → wr.cell? ⟨g, j * 16 + t, none⟩ = some u) →
      Calls Try.prog 40 #[.slice A0 n c0, .slice Ac hs.length cc] wr fun e w' => ∃ v1 v2, e = .returned (.tuple #[v1, v2]) ∧ R v1 v2 w') :
    Calls Try.prog 16 #[.slice A0 n c0, .slice Ah hs.length ch] w fun e w' => ∃ v1 v2, e = .returned (.tuple #[v1, v2]) ∧ R v1 v2 w' := by
  have HX := Aside0.mk hH
  have HZZ := Aside0.mk Z
  obtain ⟨i0, hi, hz0, hz1, hz2⟩ := info84
  have HI := Aside0.mk hi
  have HZ0 := Aside0.mk hz0
  have HZ1 := Aside0.mk hz1
  have HZ2 := Aside0.mk hz2
  clear hH Z hi hz0 hz1 hz2
  go_enter Try.func16, Try.ntmps16
  go_wp2
  go_loopw [11, 6] (fun i v wr => ∃ (q : Nat) (u : Value), Value.int .i64 (q : Int) = i ∧ u = v ∧ q ≤ hs.length ∧ Aside0 (wr.ownsRow w.heap.size 84 16 u q (cfgL (hs.take q)) ∧ Below w.heap.size w wr)) (fun i _ _ => hs.length - (intOf i).toNat)
  case atStart => exact ⟨0, _, rfl, rfl, by omega, ⟨own_nil _ _ _ _, Below.refl _ _⟩⟩
  case round =>
    obtain ⟨q, u, rfl, rfl, hq, HS⟩ := hrel
    by_cases hlt : q < hs.length
    · obtain ⟨ad, e, hcell⟩ := Kd.at_bool (Kd.C_below HX.out HS.out.2) (q : Int) (by omega) (by omega)
      cases e
      rw [rdOf_at _ _ _ hlt, Int.toNat_natCast] at hcell
      have hst := cfgL_step hs q hlt
      obtain ⟨b, hb⟩ : ∃ b, b = hs[q] := ⟨_, rfl⟩
      rw [← hb] at hcell hst
      have HST := Aside0.mk hst
      have HO2 : Aside0 ((wr.alloc (.cells (cfgV b) 84)).ownsRow w.heap.size 84 16 u q (cfgL (hs.take q))) := ⟨pw_own_below HS.out.1 (below_alloc (Below.refl _ _) _)⟩
      have HN2 : Aside0 (∀ j v', (cfgV b).toList[j]? = some v' → (wr.alloc (.cells (cfgV b) 84)).cell? ((⟨wr.heap.size, 0, none⟩ : Addr).add j) = some v') := ⟨fun j v' h => by
        rw [add_plain, cell_of_row _ _ _ _ _ _ (heap_alloc_new wr _)]
        simpa using h⟩
      have HB2 : Aside0 (Below w.heap.size w (wr.alloc (.cells (cfgV b) 84))) := ⟨below_alloc HS.out.2 _⟩
      have H1 := Aside0.mk (oneB b)
      unfold cfgV at HO2 HN2 HB2
      clear hst hb
      go_wp2_with (first
        | ((with_reducible refine gate_builtin (b := .append) (xs := #[.tmp 15, .tmp 18]) rfl ?_); at_builtin; refine wpList_append_own _ rfl (.tmp 15) (.tmp 18) 75 rfl w.heap.size 84 i0 (.agg (cfgV false)) 16 184 Try.underlying75 HI.out HZ0.out HZ1.out HZ2.out rfl (by decide) u q (cfgL (hs.take q)) rfl HO2.out ⟨wr.heap.size, 0, none⟩ 1 1 (cfgV b).toList rfl rfl HN2.out H1.out (by unfold maxLen; omega) (by omega) HB2.out.size ?_; intro v1 w1 ho hg _; rw [HST.out] at ho; have HO1 := Aside0.mk ho; have HG1 := Aside0.mk hg; clear ho hg))
      have HS2 : Aside0 (w1.ownsRow w.heap.size 84 16 v1 (q + 1) (cfgL (hs.take (q + 1))) ∧ Below w.heap.size w w1) := ⟨HO1.out, HB2.out.grown HG1.out HB2.out.size (own_base HO2.out)⟩
      go_roundw
      case rel => exact ⟨q + 1, _, by go_num, rfl, by omega, HS2⟩
      case measure => simp [intOf]; omega
    · obtain rfl : q = hs.length := by omega
      have HE := HS
      rw [List.take_of_length_le (Nat.le_refl _)] at HE
      obtain ⟨Ac, cc, g, rfl, hAc, hcf⟩ : ∃ Ac cc g, u = .slice Ac hs.length cc ∧ (0 < hs.length → Ac = some ⟨g, 0, none⟩) ∧ (∀ j t u (h : j < hs.length), (cfgV hs[j])[t]? = some u → wr.cell? ⟨g, j * 16 + t, none⟩ = some u) := by
        rcases HE.out.1.2 with ⟨rfl, h0⟩ | ⟨g, cap, cur, rfl, _⟩
        · exact ⟨none, 0, 0, by rw [h0], fun h => by omega, fun j t u h => by omega⟩
        · exact ⟨some ⟨g, 0, none⟩, cap, g, rfl, fun _ => rfl, fun j t u h hu => by
            have hc := HE.out.1.cells (g := g) rfl (j * 16 + t) u (cfgL_at hs j t u h hu)
            rwa [add_plain] at hc⟩
      have C := Aside0.mk (HZZ.out wr Ac cc g HE.out.2 hAc hcf)
      clear hAc hcf HZZ
      go_wp2_with (go_at_call 40; refine C.out.mono ?_; rintro e w2 ⟨v1, v2, rfl, hR⟩; have HRR := Aside0.mk hR; clear hR)
      go_ret2
      exact ⟨_, _, rfl, HRR.out⟩
end Go.Proofs.Ytapbnbinoakbhaa.HidA
