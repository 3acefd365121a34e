-- printed by a program of this session (gprint.py) out of the translation; Lean checks it
import Derived.Test.YtphnnbbgcnilgaaGFnListHTMLx0
import Derived.Test.YtphnnbbgcnilgaaGFnListHTMLx1
import Derived.Test.YtphnnbbgcnilgaaGFnListHTMLx2
import Derived.Test.YtphnnbbgcnilgaaGFnListHTMLx3
import Derived.Test.YtphnnbbgcnilgaaGFnListHTMLx4
import Derived.Test.YtphnnbbgcnilgaaGivenHtml
namespace Go.Proofs.Ytphnnbbgcnilgaa.GFnListHTML
open Go.RowKit Go.Proofs.YtphnnbbgcnilgaaW.PrintWords Go.Proofs.YtphnnbbgcnilgaaW.PrintLast Go.Proofs.Ytphnnbbgcnilgaa.GivenHtml Go.Proofs.YtphnnbbgcnilgaaW.PrintMore
attribute [local go_sem] max2_int min2_int max_two min_two max_three min_three max_four min_four   -- for this text's walks alone
set_option linter.unusedVariables false
set_option linter.unusedSimpArgs false

/-! ### laws_FnListHTML: function 3 -/
mutual
def laws_FnListHTML.j0 : Nat → List (S49) → ByteArray → Bool → Option (Bool)
  | 0, _, _, _ => none
  | k + 1, x0, x1, x13 => if x13 = true then (some true) else ((spec_LsRight.f k x0).bind fun t147 => (if t147 = true then (if (x0.length : Int) = 0 then (laws_FnListHTML.j1 k x0 x1 true) else ((spec_LsNames.f k x0).bind fun t148 => (if t148 = true then (if (x1.size : Int) > 60 then (laws_FnListHTML.j1 k x0 x1 true) else (if x1.toList = ([] : List UInt8) then (laws_FnListHTML.j1 k x0 x1 false) else ((spec_LsName.f k x1).bind fun t149 => (laws_FnListHTML.j1 k x0 x1 (!t149))))) else (laws_FnListHTML.j1 k x0 x1 true)))) else (laws_FnListHTML.j1 k x0 x1 true)))
def laws_FnListHTML.j1 : Nat → List (S49) → ByteArray → Bool → Option (Bool)
  | 0, _, _, _ => none
  | k + 1, x0, x1, x40 => if x40 = true then (some true) else (if x1.toList = ([] : List UInt8) then ((spec_LsSteps.f k x0).bind fun t150 => ((impl_ListHTML.f t150 x1).bind fun t153 => ((spec_LsHTML.f k x0 (⟨#[103, 111, 45, 112, 114, 101, 116, 116, 121, 45, 116, 97, 98, 108, 101]⟩ : ByteArray)).bind fun t154 => (some (t153.toList == t154.toList))))) else ((spec_LsSteps.f k x0).bind fun t155 => ((impl_ListHTML.f t155 x1).bind fun t158 => ((spec_LsHTML.f k x0 x1).bind fun t159 => (some (t158.toList == t159.toList))))))
end
def laws_FnListHTML.f (k : Nat) (l0 : List (S49)) (a1 : ByteArray) : Option (Bool) := (laws_zzFits1.f k l0).bind fun t146 => (if t146 = true then (laws_FnListHTML.j0 k l0 a1 (decide ((a1.size : Int) > 2147483647))) else (laws_FnListHTML.j0 k l0 a1 true))
theorem laws_FnListHTML.mono_l : ∀ k, (∀ y0 y1 y2, LeO (laws_FnListHTML.j0 k y0 y1 y2) (laws_FnListHTML.j0 (k + 1) y0 y1 y2)) ∧ (∀ y0 y1 y2, LeO (laws_FnListHTML.j1 k y0 y1 y2) (laws_FnListHTML.j1 (k + 1) y0 y1 y2))
  | 0 => ⟨fun _ _ _ r h => by simp [laws_FnListHTML.j0] at h, fun _ _ _ r h => by simp [laws_FnListHTML.j1] at h⟩
  | k + 1 => by
    obtain ⟨ih0, ih1⟩ := laws_FnListHTML.mono_l k
    refine ⟨?_, ?_⟩
    · intro y0 y1 y2
      unfold laws_FnListHTML.j0
      repeat' first
      | (with_reducible exact ih0 _ _ _)
      | (with_reducible exact ih1 _ _ _)
      | (with_reducible exact laws_zzFits1.mono _ _)
      | (with_reducible exact spec_LsHTML.mono _ _ _)
      | (with_reducible exact spec_LsName.mono _ _)
      | (with_reducible exact spec_LsNames.mono _ _)
      | (with_reducible exact spec_LsRight.mono _ _)
      | (with_reducible exact spec_LsSteps.mono _ _)
      | (with_reducible exact LeO.refl _)
      | (with_reducible exact LeO.none _)
      | (with_reducible refine LeO.ite ?_ ?_)
      | (with_reducible refine LeO.bind ?_ (fun _ => ?_))
      | exact ih0 _ _ _
      | exact ih1 _ _ _
      | exact laws_zzFits1.mono _ _
      | exact spec_LsHTML.mono _ _ _
      | exact spec_LsName.mono _ _
      | exact spec_LsNames.mono _ _
      | exact spec_LsRight.mono _ _
      | exact spec_LsSteps.mono _ _
      | exact LeO.none _
      | refine LeO.ite ?_ ?_
      | refine LeO.bind ?_ (fun _ => ?_)
    · intro y0 y1 y2
      unfold laws_FnListHTML.j1
      repeat' first
      | (with_reducible exact ih0 _ _ _)
      | (with_reducible exact ih1 _ _ _)
      | (with_reducible exact laws_zzFits1.mono _ _)
      | (with_reducible exact spec_LsHTML.mono _ _ _)
      | (with_reducible exact spec_LsName.mono _ _)
      | (with_reducible exact spec_LsNames.mono _ _)
      | (with_reducible exact spec_LsRight.mono _ _)
      | (with_reducible exact spec_LsSteps.mono _ _)
      | (with_reducible exact LeO.refl _)
      | (with_reducible exact LeO.none _)
      | (with_reducible refine LeO.ite ?_ ?_)
      | (with_reducible refine LeO.bind ?_ (fun _ => ?_))
      | exact ih0 _ _ _
      | exact ih1 _ _ _
      | exact laws_zzFits1.mono _ _
      | exact spec_LsHTML.mono _ _ _
      | exact spec_LsName.mono _ _
      | exact spec_LsNames.mono _ _
      | exact spec_LsRight.mono _ _
      | exact spec_LsSteps.mono _ _
      | exact LeO.none _
      | refine LeO.ite ?_ ?_
      | refine LeO.bind ?_ (fun _ => ?_)
theorem laws_FnListHTML.mono : ∀ a0 a1 k, LeO (laws_FnListHTML.f k a0 a1) (laws_FnListHTML.f (k + 1) a0 a1) := by
  intro a0 a1 k
  obtain ⟨ih0, ih1⟩ := laws_FnListHTML.mono_l k
  unfold laws_FnListHTML.f
  repeat' first
      | (with_reducible exact ih0 _ _ _)
      | (with_reducible exact ih1 _ _ _)
      | (with_reducible exact laws_zzFits1.mono _ _)
      | (with_reducible exact spec_LsHTML.mono _ _ _)
      | (with_reducible exact spec_LsName.mono _ _)
      | (with_reducible exact spec_LsNames.mono _ _)
      | (with_reducible exact spec_LsRight.mono _ _)
      | (with_reducible exact spec_LsSteps.mono _ _)
      | (with_reducible exact LeO.refl _)
      | (with_reducible exact LeO.none _)
      | (with_reducible refine LeO.ite ?_ ?_)
      | (with_reducible refine LeO.bind ?_ (fun _ => ?_))
      | exact ih0 _ _ _
      | exact ih1 _ _ _
      | exact laws_zzFits1.mono _ _
      | exact spec_LsHTML.mono _ _ _
      | exact spec_LsName.mono _ _
      | exact spec_LsNames.mono _ _
      | exact spec_LsRight.mono _ _
      | exact spec_LsSteps.mono _ _
      | exact LeO.none _
      | refine LeO.ite ?_ ?_
      | refine LeO.bind ?_ (fun _ => ?_)
set_option maxHeartbeats 8000000 in
set_option maxRecDepth 100000 in
theorem laws_FnListHTML.calls (k : Nat) (A0 : Option Addr) (c0 : Nat) (l0 : List (S49)) (a1 : ByteArray) (r : Bool) (w : World) (hr0 : Kd.C k49 w A0 l0.length l0) (hc0 : l0.length ≤ c0) (h : laws_FnListHTML.f k l0 a1 = some r) :
    Calls Try.prog 3 #[.slice A0 l0.length c0, .string a1] w fun e w' => e = .returned (.bool r) ∧ Below w.heap.size w w' := by
  have HR0 := Aside0.mk hr0
  have HC0 := Aside0.mk hc0
  clear hr0 hc0
  have HB := Aside0.mk (Below.refl w.heap.size w)
  have H : ((laws_zzFits1.f k l0).bind fun t146 => (if t146 = true then (laws_FnListHTML.j0 k l0 a1 (decide ((a1.size : Int) > 2147483647))) else (laws_FnListHTML.j0 k l0 a1 true))) = some r := h
  clear h
  have HC3 := Aside0.mk H
  clear H
  go_enter Try.func3, Try.ntmps3
  go_upto_region 1 with (fail)
  go_cut [13] (fun v13 wc => ∃ (kq : Nat) (x13_2 : Bool), v13 = .bool x13_2 ∧ Aside0 (laws_FnListHTML.j0 kq l0 a1 x13_2 = some r) ∧ Aside0 (kq ≤ k) ∧ Aside0 (Below w.heap.size w wc))
  case first =>
    have H := HC3.out
    clear HC3
    replace H := Option.bind_eq_some_iff.mp H
    obtain ⟨t146, A40, H⟩ := H
    replace H : (if t146 = true then (laws_FnListHTML.j0 k l0 a1 (decide ((a1.size : Int) > 2147483647))) else (laws_FnListHTML.j0 k l0 a1 true)) = some r := H
    have A4 := Aside0.mk A40
    clear A40
    by_cases c5 : t146 = true
    · subst c5
      have H1 : (laws_FnListHTML.j0 k l0 a1 (decide ((a1.size : Int) > 2147483647))) = some r := by rw [if_pos rfl] at H; exact H
      clear H
      have H := H1
      clear H1
      have H' := Aside0.mk H
      clear H
      go_wp2_with (first | ((with_reducible refine gate_callee (f := 6) rfl ?_); refine goesL_ (some 7) rfl rfl Try.func6 (by kernel_rfl) rfl #[.slice A0 l0.length c0] rfl (by (try simp only [List.map_toArray, List.map_cons, List.map_nil]); first | done | rfl | (simp only [List.length_drop, List.length_take]; rfl)) ?_; (with_reducible refine (laws_zzFits1.calls k _ _ l0 true _ ?side1 ?side2 A4.out).mono ?_); (case side1 => repeat (first | exact (Kd.C_below HR0.out HB.out) | (with_reducible refine Kd.C_alloc ?_ _) | (with_reducible refine Kd.C_drewN ?_ _) | (with_reducible refine Kd.C_drew ?_))); (case side2 => exact HC0.out); rintro e w6 ⟨rfl, hb⟩; refine ⟨_, rfl, ?_⟩; have n0_ := Aside0.mk (below_step (by repeat (first | (with_reducible first | exact HB.out | apply below_alloc | apply pw_below_drewN | apply below_drew1) | exact HB.out)) hb); clear HB; have HB := n0_; clear n0_; (try clear hb); (try clear hb2); (try clear hk); (try clear hi)))
      go_meet
      case rel => exact ⟨_, (decide ((a1.size : Int) > 2147483647)), (by first | rfl | (simp; done) | (simp [*]; done)), H', ⟨by first | omega | exact Nat.le_refl _⟩, ⟨by repeat (first | (with_reducible first | exact HB.out | apply below_alloc | apply pw_below_drewN | apply below_drew1) | exact HB.out)⟩⟩
    · replace c5 := Bool.eq_false_iff.mpr c5
      subst c5
      have H1 : (laws_FnListHTML.j0 k l0 a1 true) = some r := by rw [if_neg (show ¬ (false = true) by decide)] at H; exact H
      clear H
      have H := H1
      clear H1
      have H' := Aside0.mk H
      clear H
      go_wp2_with (first | ((with_reducible refine gate_callee (f := 6) rfl ?_); refine goesL_ (some 7) rfl rfl Try.func6 (by kernel_rfl) rfl #[.slice A0 l0.length c0] rfl (by (try simp only [List.map_toArray, List.map_cons, List.map_nil]); first | done | rfl | (simp only [List.length_drop, List.length_take]; rfl)) ?_; (with_reducible refine (laws_zzFits1.calls k _ _ l0 false _ ?side1 ?side2 A4.out).mono ?_); (case side1 => repeat (first | exact (Kd.C_below HR0.out HB.out) | (with_reducible refine Kd.C_alloc ?_ _) | (with_reducible refine Kd.C_drewN ?_ _) | (with_reducible refine Kd.C_drew ?_))); (case side2 => exact HC0.out); rintro e w7 ⟨rfl, hb⟩; refine ⟨_, rfl, ?_⟩; have n0_ := Aside0.mk (below_step (by repeat (first | (with_reducible first | exact HB.out | apply below_alloc | apply pw_below_drewN | apply below_drew1) | exact HB.out)) hb); clear HB; have HB := n0_; clear n0_; (try clear hb); (try clear hb2); (try clear hk); (try clear hi)))
      go_meet
      case rel => exact ⟨_, (true), (by first | rfl | (simp; done) | (simp [*]; done)), H', ⟨by first | omega | exact Nat.le_refl _⟩, ⟨by repeat (first | (with_reducible first | exact HB.out | apply below_alloc | apply pw_below_drewN | apply below_drew1) | exact HB.out)⟩⟩
  case rest =>
    clear HC3
    try clear p2
    try clear c3
    try clear c5
    try clear c6
    obtain ⟨kq, x13_2, rfl, HA, HJ2, HB⟩ := hcut
    cases kq with
    | zero => exact absurd HA.out (by simp [laws_FnListHTML.j0])
    | succ kj2 =>
      have H := HA.out
      clear HA
      simp only [laws_FnListHTML.j0] at H
      by_cases c8 : x13_2 = true
      · subst c8
        have H1 : (some true) = some r := by rw [if_pos rfl] at H; exact H
        clear H
        have H := H1
        clear H1
        obtain rfl := Option.some.inj H
        go_wp2
        go_ret
        exact ⟨by first | rfl | (simp [errW_none, errW_some] <;> rfl) | (simp [*, errW_none, errW_some] <;> rfl), by repeat (first | (with_reducible first | exact HB.out | apply below_alloc | apply pw_below_drewN | apply below_drew1) | exact HB.out)⟩
      · replace c8 := Bool.eq_false_iff.mpr c8
        subst c8
        have H1 : ((spec_LsRight.f kj2 l0).bind fun t147 => (if t147 = true then (if (l0.length : Int) = 0 then (laws_FnListHTML.j1 kj2 l0 a1 true) else ((spec_LsNames.f kj2 l0).bind fun t148 => (if t148 = true then (if (a1.size : Int) > 60 then (laws_FnListHTML.j1 kj2 l0 a1 true) else (if a1.toList = ([] : List UInt8) then (laws_FnListHTML.j1 kj2 l0 a1 false) else ((spec_LsName.f kj2 a1).bind fun t149 => (laws_FnListHTML.j1 kj2 l0 a1 (!t149))))) else (laws_FnListHTML.j1 kj2 l0 a1 true)))) else (laws_FnListHTML.j1 kj2 l0 a1 true))) = some r := by rw [if_neg (show ¬ (false = true) by decide)] at H; exact H
        clear H
        have H := H1
        clear H1
        have HC9 := Aside0.mk H
        clear H
        go_upto_region 3 with (fail)
        go_cut [40] (fun v40 wc => ∃ (kq : Nat) (x40_8 : Bool), v40 = .bool x40_8 ∧ Aside0 (laws_FnListHTML.j1 kq l0 a1 x40_8 = some r) ∧ Aside0 (kq ≤ kj2) ∧ Aside0 (Below w.heap.size w wc))
        case first =>
          have H := HC9.out
          clear HC9
          replace H := Option.bind_eq_some_iff.mp H
          obtain ⟨t147, A100, H⟩ := H
          replace H : (if t147 = true then (if (l0.length : Int) = 0 then (laws_FnListHTML.j1 kj2 l0 a1 true) else ((spec_LsNames.f kj2 l0).bind fun t148 => (if t148 = true then (if (a1.size : Int) > 60 then (laws_FnListHTML.j1 kj2 l0 a1 true) else (if a1.toList = ([] : List UInt8) then (laws_FnListHTML.j1 kj2 l0 a1 false) else ((spec_LsName.f kj2 a1).bind fun t149 => (laws_FnListHTML.j1 kj2 l0 a1 (!t149))))) else (laws_FnListHTML.j1 kj2 l0 a1 true)))) else (laws_FnListHTML.j1 kj2 l0 a1 true)) = some r := H
          have A10 := Aside0.mk A100
          clear A100
          by_cases c11 : t147 = true
          · subst c11
            have H1 : (if (l0.length : Int) = 0 then (laws_FnListHTML.j1 kj2 l0 a1 true) else ((spec_LsNames.f kj2 l0).bind fun t148 => (if t148 = true then (if (a1.size : Int) > 60 then (laws_FnListHTML.j1 kj2 l0 a1 true) else (if a1.toList = ([] : List UInt8) then (laws_FnListHTML.j1 kj2 l0 a1 false) else ((spec_LsName.f kj2 a1).bind fun t149 => (laws_FnListHTML.j1 kj2 l0 a1 (!t149))))) else (laws_FnListHTML.j1 kj2 l0 a1 true)))) = some r := by rw [if_pos rfl] at H; exact H
            clear H
            have H := H1
            clear H1
            by_cases c12 : (l0.length : Int) = 0
            · rw [if_pos c12] at H
              have c12b0 : ((l0.length : Int) == 0) = true := beq_iff_eq.mpr c12
              have c12b1 : ((l0.length : Int) != 0) = false := bne_eq_false_iff_eq.mpr c12
              clear c12
              (first | rw [c12b0] | (simp only [i64_w, i32_w]; rw [c12b0]) | skip)
              have H' := Aside0.mk H
              clear H
              go_wp2_with (first | ((with_reducible refine gate_callee (f := 7) rfl ?_); refine goesL_ (some 15) rfl rfl Try.func7 (by kernel_rfl) rfl #[.slice A0 l0.length c0] rfl (by (try simp only [List.map_toArray, List.map_cons, List.map_nil]); first | done | rfl | (simp only [List.length_drop, List.length_take]; rfl)) ?_; (with_reducible refine (spec_LsRight.calls kj2 _ _ l0 true _ ?side1 ?side2 A10.out).mono ?_); (case side1 => repeat (first | exact (Kd.C_below HR0.out HB.out) | (with_reducible refine Kd.C_alloc ?_ _) | (with_reducible refine Kd.C_drewN ?_ _) | (with_reducible refine Kd.C_drew ?_))); (case side2 => exact HC0.out); rintro e w13 ⟨rfl, hb⟩; refine ⟨_, rfl, ?_⟩; have n0_ := Aside0.mk (below_step (by repeat (first | (with_reducible first | exact HB.out | apply below_alloc | apply pw_below_drewN | apply below_drew1) | exact HB.out)) hb); clear HB; have HB := n0_; clear n0_; (try clear hb); (try clear hb2); (try clear hk); (try clear hi)))
              go_meet
              case rel => exact ⟨_, (true), (by first | rfl | (simp; done) | (simp [*]; done)), H', ⟨by have := HJ2.out; first | omega | exact Nat.le_refl _⟩, ⟨by repeat (first | (with_reducible first | exact HB.out | apply below_alloc | apply pw_below_drewN | apply below_drew1) | exact HB.out)⟩⟩
            · rw [if_neg c12] at H
              have c12b0 : ((l0.length : Int) == 0) = false := beq_eq_false_iff_ne.mpr c12
              have c12b1 : ((l0.length : Int) != 0) = true := bne_iff_ne.mpr c12
              have c12b2 : ¬ (l0 = []) := fun h_ => c12 (by rw [h_]; rfl)
              (first | rw [c12b0] | (simp only [i64_w, i32_w]; rw [c12b0]) | skip)
              replace H := Option.bind_eq_some_iff.mp H
              obtain ⟨t148, A140, H⟩ := H
              replace H : (if t148 = true then (if (a1.size : Int) > 60 then (laws_FnListHTML.j1 kj2 l0 a1 true) else (if a1.toList = ([] : List UInt8) then (laws_FnListHTML.j1 kj2 l0 a1 false) else ((spec_LsName.f kj2 a1).bind fun t149 => (laws_FnListHTML.j1 kj2 l0 a1 (!t149))))) else (laws_FnListHTML.j1 kj2 l0 a1 true)) = some r := H
              have A14 := Aside0.mk A140
              clear A140
              by_cases c15 : t148 = true
              · subst c15
                have H1 : (if (a1.size : Int) > 60 then (laws_FnListHTML.j1 kj2 l0 a1 true) else (if a1.toList = ([] : List UInt8) then (laws_FnListHTML.j1 kj2 l0 a1 false) else ((spec_LsName.f kj2 a1).bind fun t149 => (laws_FnListHTML.j1 kj2 l0 a1 (!t149))))) = some r := by rw [if_pos rfl] at H; exact H
                clear H
                have H := H1
                clear H1
                by_cases c16 : (a1.size : Int) > 60
                · rw [if_pos c16] at H
                  have c16b0 : decide (60 < (a1.size : Int)) = true := decide_eq_true c16
                  have c16b1 : decide (60 < a1.size) = true := decide_eq_true (by omega)
                  clear c16
                  have H' := Aside0.mk H
                  clear H
                  go_wp2_with (first | ((with_reducible refine gate_callee (f := 7) rfl ?_); refine goesL_ (some 15) rfl rfl Try.func7 (by kernel_rfl) rfl #[.slice A0 l0.length c0] rfl (by (try simp only [List.map_toArray, List.map_cons, List.map_nil]); first | done | rfl | (simp only [List.length_drop, List.length_take]; rfl)) ?_; (with_reducible refine (spec_LsRight.calls kj2 _ _ l0 true _ ?side1 ?side2 A10.out).mono ?_); (case side1 => repeat (first | exact (Kd.C_below HR0.out HB.out) | (with_reducible refine Kd.C_alloc ?_ _) | (with_reducible refine Kd.C_drewN ?_ _) | (with_reducible refine Kd.C_drew ?_))); (case side2 => exact HC0.out); rintro e w17 ⟨rfl, hb⟩; refine ⟨_, rfl, ?_⟩; have n0_ := Aside0.mk (below_step (by repeat (first | (with_reducible first | exact HB.out | apply below_alloc | apply pw_below_drewN | apply below_drew1) | exact HB.out)) hb); clear HB; have HB := n0_; clear n0_; (try clear hb); (try clear hb2); (try clear hk); (try clear hi)) | (go_at_call 8; (with_reducible refine (spec_LsNames.calls kj2 _ _ l0 true _ ?side1 ?side2 A14.out).mono ?_); (case side1 => repeat (first | exact (Kd.C_below HR0.out HB.out) | (with_reducible refine Kd.C_alloc ?_ _) | (with_reducible refine Kd.C_drewN ?_ _) | (with_reducible refine Kd.C_drew ?_))); (case side2 => exact HC0.out); rintro e w18 ⟨rfl, hb⟩; have n0_ := Aside0.mk (below_step (by repeat (first | (with_reducible first | exact HB.out | apply below_alloc | apply pw_below_drewN | apply below_drew1) | exact HB.out)) hb); clear HB; have HB := n0_; clear n0_; (try clear hb); (try clear hb2); (try clear hk); (try clear hi)))
                  go_meet
                  case rel => exact ⟨_, (true), (by first | rfl | (simp; done) | (simp [*]; done)), H', ⟨by have := HJ2.out; first | omega | exact Nat.le_refl _⟩, ⟨by repeat (first | (with_reducible first | exact HB.out | apply below_alloc | apply pw_below_drewN | apply below_drew1) | exact HB.out)⟩⟩
                · rw [if_neg c16] at H
                  have c16b0 : decide (60 < (a1.size : Int)) = false := decide_eq_false c16
                  have c16b1 : decide (60 < a1.size) = false := decide_eq_false (by omega)
                  clear c16
                  by_cases c19 : a1.toList = ([] : List UInt8)
                  · rw [if_pos c19] at H
                    have c19b0 : (a1.toList == ([] : List UInt8)) = true := beq_iff_eq.mpr c19
                    have c19b1 : (a1.toList != ([] : List UInt8)) = false := bne_eq_false_iff_eq.mpr c19
                    clear c19
                    have H' := Aside0.mk H
                    clear H
                    go_wp2_with (first | ((with_reducible refine gate_callee (f := 7) rfl ?_); refine goesL_ (some 15) rfl rfl Try.func7 (by kernel_rfl) rfl #[.slice A0 l0.length c0] rfl (by (try simp only [List.map_toArray, List.map_cons, List.map_nil]); first | done | rfl | (simp only [List.length_drop, List.length_take]; rfl)) ?_; (with_reducible refine (spec_LsRight.calls kj2 _ _ l0 true _ ?side1 ?side2 A10.out).mono ?_); (case side1 => repeat (first | exact (Kd.C_below HR0.out HB.out) | (with_reducible refine Kd.C_alloc ?_ _) | (with_reducible refine Kd.C_drewN ?_ _) | (with_reducible refine Kd.C_drew ?_))); (case side2 => exact HC0.out); rintro e w20 ⟨rfl, hb⟩; refine ⟨_, rfl, ?_⟩; have n0_ := Aside0.mk (below_step (by repeat (first | (with_reducible first | exact HB.out | apply below_alloc | apply pw_below_drewN | apply below_drew1) | exact HB.out)) hb); clear HB; have HB := n0_; clear n0_; (try clear hb); (try clear hb2); (try clear hk); (try clear hi)) | (go_at_call 8; (with_reducible refine (spec_LsNames.calls kj2 _ _ l0 true _ ?side1 ?side2 A14.out).mono ?_); (case side1 => repeat (first | exact (Kd.C_below HR0.out HB.out) | (with_reducible refine Kd.C_alloc ?_ _) | (with_reducible refine Kd.C_drewN ?_ _) | (with_reducible refine Kd.C_drew ?_))); (case side2 => exact HC0.out); rintro e w21 ⟨rfl, hb⟩; have n0_ := Aside0.mk (below_step (by repeat (first | (with_reducible first | exact HB.out | apply below_alloc | apply pw_below_drewN | apply below_drew1) | exact HB.out)) hb); clear HB; have HB := n0_; clear n0_; (try clear hb); (try clear hb2); (try clear hk); (try clear hi)))
                    go_meet
                    case rel => exact ⟨_, (false), (by first | rfl | (simp; done) | (simp [*]; done)), H', ⟨by have := HJ2.out; first | omega | exact Nat.le_refl _⟩, ⟨by repeat (first | (with_reducible first | exact HB.out | apply below_alloc | apply pw_below_drewN | apply below_drew1) | exact HB.out)⟩⟩
                  · rw [if_neg c19] at H
                    have c19b0 : (a1.toList == ([] : List UInt8)) = false := beq_eq_false_iff_ne.mpr c19
                    have c19b1 : (a1.toList != ([] : List UInt8)) = true := bne_iff_ne.mpr c19
                    replace H := Option.bind_eq_some_iff.mp H
                    obtain ⟨t149, A220, H⟩ := H
                    replace H : (laws_FnListHTML.j1 kj2 l0 a1 (!t149)) = some r := H
                    have A22 := Aside0.mk A220
                    clear A220
                    have H' := Aside0.mk H
                    clear H
                    go_wp2_with (first | ((with_reducible refine gate_callee (f := 7) rfl ?_); refine goesL_ (some 15) rfl rfl Try.func7 (by kernel_rfl) rfl #[.slice A0 l0.length c0] rfl (by (try simp only [List.map_toArray, List.map_cons, List.map_nil]); first | done | rfl | (simp only [List.length_drop, List.length_take]; rfl)) ?_; (with_reducible refine (spec_LsRight.calls kj2 _ _ l0 true _ ?side1 ?side2 A10.out).mono ?_); (case side1 => repeat (first | exact (Kd.C_below HR0.out HB.out) | (with_reducible refine Kd.C_alloc ?_ _) | (with_reducible refine Kd.C_drewN ?_ _) | (with_reducible refine Kd.C_drew ?_))); (case side2 => exact HC0.out); rintro e w23 ⟨rfl, hb⟩; refine ⟨_, rfl, ?_⟩; have n0_ := Aside0.mk (below_step (by repeat (first | (with_reducible first | exact HB.out | apply below_alloc | apply pw_below_drewN | apply below_drew1) | exact HB.out)) hb); clear HB; have HB := n0_; clear n0_; (try clear hb); (try clear hb2); (try clear hk); (try clear hi)) | (go_at_call 8; (with_reducible refine (spec_LsNames.calls kj2 _ _ l0 true _ ?side1 ?side2 A14.out).mono ?_); (case side1 => repeat (first | exact (Kd.C_below HR0.out HB.out) | (with_reducible refine Kd.C_alloc ?_ _) | (with_reducible refine Kd.C_drewN ?_ _) | (with_reducible refine Kd.C_drew ?_))); (case side2 => exact HC0.out); rintro e w24 ⟨rfl, hb⟩; have n0_ := Aside0.mk (below_step (by repeat (first | (with_reducible first | exact HB.out | apply below_alloc | apply pw_below_drewN | apply below_drew1) | exact HB.out)) hb); clear HB; have HB := n0_; clear n0_; (try clear hb); (try clear hb2); (try clear hk); (try clear hi)) | (go_at_call 9; (with_reducible refine (spec_LsName.calls kj2 a1 t149 _ A22.out).mono ?_); rintro e w' ⟨rfl, ⟨nd, rfl⟩⟩))
                    go_meet
                    case rel => exact ⟨_, (!t149), (by first | rfl | (simp; done) | (simp [*]; done)), H', ⟨by have := HJ2.out; first | omega | exact Nat.le_refl _⟩, ⟨by repeat (first | (with_reducible first | exact HB.out | apply below_alloc | apply pw_below_drewN | apply below_drew1) | exact HB.out)⟩⟩
              · replace c15 := Bool.eq_false_iff.mpr c15
                subst c15
                have H1 : (laws_FnListHTML.j1 kj2 l0 a1 true) = some r := by rw [if_neg (show ¬ (false = true) by decide)] at H; exact H
                clear H
                have H := H1
                clear H1
                have H' := Aside0.mk H
                clear H
                go_wp2_with (first | ((with_reducible refine gate_callee (f := 7) rfl ?_); refine goesL_ (some 15) rfl rfl Try.func7 (by kernel_rfl) rfl #[.slice A0 l0.length c0] rfl (by (try simp only [List.map_toArray, List.map_cons, List.map_nil]); first | done | rfl | (simp only [List.length_drop, List.length_take]; rfl)) ?_; (with_reducible refine (spec_LsRight.calls kj2 _ _ l0 true _ ?side1 ?side2 A10.out).mono ?_); (case side1 => repeat (first | exact (Kd.C_below HR0.out HB.out) | (with_reducible refine Kd.C_alloc ?_ _) | (with_reducible refine Kd.C_drewN ?_ _) | (with_reducible refine Kd.C_drew ?_))); (case side2 => exact HC0.out); rintro e w25 ⟨rfl, hb⟩; refine ⟨_, rfl, ?_⟩; have n0_ := Aside0.mk (below_step (by repeat (first | (with_reducible first | exact HB.out | apply below_alloc | apply pw_below_drewN | apply below_drew1) | exact HB.out)) hb); clear HB; have HB := n0_; clear n0_; (try clear hb); (try clear hb2); (try clear hk); (try clear hi)) | (go_at_call 8; (with_reducible refine (spec_LsNames.calls kj2 _ _ l0 false _ ?side1 ?side2 A14.out).mono ?_); (case side1 => repeat (first | exact (Kd.C_below HR0.out HB.out) | (with_reducible refine Kd.C_alloc ?_ _) | (with_reducible refine Kd.C_drewN ?_ _) | (with_reducible refine Kd.C_drew ?_))); (case side2 => exact HC0.out); rintro e w26 ⟨rfl, hb⟩; have n0_ := Aside0.mk (below_step (by repeat (first | (with_reducible first | exact HB.out | apply below_alloc | apply pw_below_drewN | apply below_drew1) | exact HB.out)) hb); clear HB; have HB := n0_; clear n0_; (try clear hb); (try clear hb2); (try clear hk); (try clear hi)))
                go_meet
                case rel => exact ⟨_, (true), (by first | rfl | (simp; done) | (simp [*]; done)), H', ⟨by have := HJ2.out; first | omega | exact Nat.le_refl _⟩, ⟨by repeat (first | (with_reducible first | exact HB.out | apply below_alloc | apply pw_below_drewN | apply below_drew1) | exact HB.out)⟩⟩
          · replace c11 := Bool.eq_false_iff.mpr c11
            subst c11
            have H1 : (laws_FnListHTML.j1 kj2 l0 a1 true) = some r := by rw [if_neg (show ¬ (false = true) by decide)] at H; exact H
            clear H
            have H := H1
            clear H1
            have H' := Aside0.mk H
            clear H
            go_wp2_with (first | ((with_reducible refine gate_callee (f := 7) rfl ?_); refine goesL_ (some 15) rfl rfl Try.func7 (by kernel_rfl) rfl #[.slice A0 l0.length c0] rfl (by (try simp only [List.map_toArray, List.map_cons, List.map_nil]); first | done | rfl | (simp only [List.length_drop, List.length_take]; rfl)) ?_; (with_reducible refine (spec_LsRight.calls kj2 _ _ l0 false _ ?side1 ?side2 A10.out).mono ?_); (case side1 => repeat (first | exact (Kd.C_below HR0.out HB.out) | (with_reducible refine Kd.C_alloc ?_ _) | (with_reducible refine Kd.C_drewN ?_ _) | (with_reducible refine Kd.C_drew ?_))); (case side2 => exact HC0.out); rintro e w27 ⟨rfl, hb⟩; refine ⟨_, rfl, ?_⟩; have n0_ := Aside0.mk (below_step (by repeat (first | (with_reducible first | exact HB.out | apply below_alloc | apply pw_below_drewN | apply below_drew1) | exact HB.out)) hb); clear HB; have HB := n0_; clear n0_; (try clear hb); (try clear hb2); (try clear hk); (try clear hi)))
            go_meet
            case rel => exact ⟨_, (true), (by first | rfl | (simp; done) | (simp [*]; done)), H', ⟨by have := HJ2.out; first | omega | exact Nat.le_refl _⟩, ⟨by repeat (first | (with_reducible first | exact HB.out | apply below_alloc | apply pw_below_drewN | apply below_drew1) | exact HB.out)⟩⟩
        case rest =>
          clear HC9
          try clear c1
          try clear p2
          try clear c3
          try clear c5
          try clear c6
          try clear c7
          try clear c8
          try clear c11
          try clear c12
          try clear c12b0
          try clear c12b1
          try clear c12b2
          try clear c15
          try clear c16
          try clear c16b0
          try clear c16b1
          try clear c19
          try clear c19b0
          try clear c19b1
          try clear p2
          obtain ⟨kq, x40_8, rfl, HA, HJ8, HB⟩ := hcut
          cases kq with
          | zero => exact absurd HA.out (by simp [laws_FnListHTML.j1])
          | succ kj8 =>
            have H := HA.out
            clear HA
            simp only [laws_FnListHTML.j1] at H
            by_cases c28 : x40_8 = true
            · subst c28
              have H1 : (some true) = some r := by rw [if_pos rfl] at H; exact H
              clear H
              have H := H1
              clear H1
              obtain rfl := Option.some.inj H
              go_wp2
              go_ret
              exact ⟨by first | rfl | (simp [errW_none, errW_some] <;> rfl) | (simp [*, errW_none, errW_some] <;> rfl), by repeat (first | (with_reducible first | exact HB.out | apply below_alloc | apply pw_below_drewN | apply below_drew1) | exact HB.out)⟩
            · replace c28 := Bool.eq_false_iff.mpr c28
              subst c28
              have H1 : (if a1.toList = ([] : List UInt8) then ((spec_LsSteps.f kj8 l0).bind fun t150 => ((impl_ListHTML.f t150 a1).bind fun t153 => ((spec_LsHTML.f kj8 l0 (⟨#[103, 111, 45, 112, 114, 101, 116, 116, 121, 45, 116, 97, 98, 108, 101]⟩ : ByteArray)).bind fun t154 => (some (t153.toList == t154.toList))))) else ((spec_LsSteps.f kj8 l0).bind fun t155 => ((impl_ListHTML.f t155 a1).bind fun t158 => ((spec_LsHTML.f kj8 l0 a1).bind fun t159 => (some (t158.toList == t159.toList)))))) = some r := by rw [if_neg (show ¬ (false = true) by decide)] at H; exact H
              clear H
              have H := H1
              clear H1
              by_cases c29 : a1.toList = ([] : List UInt8)
              · rw [if_pos c29] at H
                have c29b0 : (a1.toList == ([] : List UInt8)) = true := beq_iff_eq.mpr c29
                have c29b1 : (a1.toList != ([] : List UInt8)) = false := bne_eq_false_iff_eq.mpr c29
                clear c29
                replace H := Option.bind_eq_some_iff.mp H
                obtain ⟨t150, A300, H⟩ := H
                replace H : ((impl_ListHTML.f t150 a1).bind fun t153 => ((spec_LsHTML.f kj8 l0 (⟨#[103, 111, 45, 112, 114, 101, 116, 116, 121, 45, 116, 97, 98, 108, 101]⟩ : ByteArray)).bind fun t154 => (some (t153.toList == t154.toList)))) = some r := H
                have A30 := Aside0.mk A300
                clear A300
                replace H := Option.bind_eq_some_iff.mp H
                obtain ⟨t153, A310, H⟩ := H
                replace H : ((spec_LsHTML.f kj8 l0 (⟨#[103, 111, 45, 112, 114, 101, 116, 116, 121, 45, 116, 97, 98, 108, 101]⟩ : ByteArray)).bind fun t154 => (some (t153.toList == t154.toList))) = some r := H
                have A31 := Aside0.mk A310
                clear A310
                replace H := Option.bind_eq_some_iff.mp H
                obtain ⟨t154, A320, H⟩ := H
                replace H : (some (t153.toList == t154.toList)) = some r := H
                have A32 := Aside0.mk A320
                clear A320
                obtain rfl := Option.some.inj H
                go_wp2_with (first | ((with_reducible refine gate_callee (f := 11) rfl ?_); refine goesL_ (some 45) rfl rfl Try.func11 (by kernel_rfl) rfl #[.slice A0 l0.length c0] rfl (by (try simp only [List.map_toArray, List.map_cons, List.map_nil]); first | done | rfl | (simp only [List.length_drop, List.length_take]; rfl)) ?_; (with_reducible refine (spec_LsSteps.calls kj8 _ _ l0 t150 _ ?side1 ?side2 A30.out).mono ?_); (case side1 => repeat (first | exact (Kd.C_below HR0.out HB.out) | (with_reducible refine Kd.C_alloc ?_ _) | (with_reducible refine Kd.C_drewN ?_ _) | (with_reducible refine Kd.C_drew ?_))); (case side2 => exact HC0.out); rintro e w33 ⟨v151, rfl, ho0, hb⟩; refine ⟨_, rfl, ?_⟩; have n0_ := Aside0.mk (Kd.S_lower ho0 (below_size (by repeat (first | (with_reducible first | exact HB.out | apply below_alloc | apply pw_below_drewN | apply below_drew1) | exact HB.out)))); have n1_ := Aside0.mk (below_step (by repeat (first | (with_reducible first | exact HB.out | apply below_alloc | apply pw_below_drewN | apply below_drew1) | exact HB.out)) hb); clear HB; have HO152 := n0_; have HB := n1_; clear n0_ n1_; (try clear hb); (try clear hb2); (try clear hk); (try clear hi); (try clear ho0); obtain ⟨Ao34, co34, eo34⟩ := Kd.S_slice HO152.out; subst eo34) | ((with_reducible refine gate_callee (f := 10) rfl ?_); refine goesL_ (some 47) rfl rfl Try.func10 (by kernel_rfl) rfl #[.slice Ao34 t150.length co34, .string a1] rfl (by (try simp only [List.map_toArray, List.map_cons, List.map_nil]); first | done | rfl | (simp only [List.length_drop, List.length_take]; rfl)) ?_; (with_reducible refine (impl_ListHTML.calls _ _ t150 a1 t153 _ ?side1 ?side2 A31.out).mono ?_); (case side1 => repeat (first | exact (Kd.S_reads' HO152.out).2.2 | (with_reducible refine Kd.C_alloc ?_ _) | (with_reducible refine Kd.C_drewN ?_ _) | (with_reducible refine Kd.C_drew ?_))); (case side2 => exact (Kd.S_reads' HO152.out).2.1); rintro e w35 ⟨rfl, hb⟩; refine ⟨_, rfl, ?_⟩; have n0_ := Aside0.mk (Kd.S_below (by (with_reducible repeat (first | apply Kd.S_alloc | apply Kd.S_drewN | apply Kd.S_drew)); exact HO152.out) hb); have n1_ := Aside0.mk (below_step (by repeat (first | (with_reducible first | exact HB.out | apply below_alloc | apply pw_below_drewN | apply below_drew1) | exact HB.out)) hb); clear HO152; clear HB; have HO152 := n0_; have HB := n1_; clear n0_ n1_; (try clear hb); (try clear hb2); (try clear hk); (try clear hi)) | ((with_reducible refine gate_callee (f := 12) rfl ?_); refine goesL_ (some 50) rfl rfl Try.func12 (by kernel_rfl) rfl #[.slice A0 l0.length c0, .string (⟨#[103, 111, 45, 112, 114, 101, 116, 116, 121, 45, 116, 97, 98, 108, 101]⟩ : ByteArray)] rfl (by (try simp only [List.map_toArray, List.map_cons, List.map_nil]); first | done | rfl | (simp only [List.length_drop, List.length_take]; rfl)) ?_; (with_reducible refine (spec_LsHTML.calls kj8 _ _ l0 (⟨#[103, 111, 45, 112, 114, 101, 116, 116, 121, 45, 116, 97, 98, 108, 101]⟩ : ByteArray) t154 _ ?side1 ?side2 A32.out).mono ?_); (case side1 => repeat (first | exact (Kd.C_below HR0.out HB.out) | (with_reducible refine Kd.C_alloc ?_ _) | (with_reducible refine Kd.C_drewN ?_ _) | (with_reducible refine Kd.C_drew ?_))); (case side2 => exact HC0.out); rintro e w36 ⟨rfl, hb⟩; refine ⟨_, rfl, ?_⟩; have n0_ := Aside0.mk (Kd.S_below (by (with_reducible repeat (first | apply Kd.S_alloc | apply Kd.S_drewN | apply Kd.S_drew)); exact HO152.out) hb); have n1_ := Aside0.mk (below_step (by repeat (first | (with_reducible first | exact HB.out | apply below_alloc | apply pw_below_drewN | apply below_drew1) | exact HB.out)) hb); clear HO152; clear HB; have HO152 := n0_; have HB := n1_; clear n0_ n1_; (try clear hb); (try clear hb2); (try clear hk); (try clear hi)))
                go_ret
                exact ⟨by first | rfl | (simp [errW_none, errW_some] <;> rfl) | (simp [*, errW_none, errW_some] <;> rfl), by repeat (first | (with_reducible first | exact HB.out | apply below_alloc | apply pw_below_drewN | apply below_drew1) | exact HB.out)⟩
              · rw [if_neg c29] at H
                have c29b0 : (a1.toList == ([] : List UInt8)) = false := beq_eq_false_iff_ne.mpr c29
                have c29b1 : (a1.toList != ([] : List UInt8)) = true := bne_iff_ne.mpr c29
                replace H := Option.bind_eq_some_iff.mp H
                obtain ⟨t155, A370, H⟩ := H
                replace H : ((impl_ListHTML.f t155 a1).bind fun t158 => ((spec_LsHTML.f kj8 l0 a1).bind fun t159 => (some (t158.toList == t159.toList)))) = some r := H
                have A37 := Aside0.mk A370
                clear A370
                replace H := Option.bind_eq_some_iff.mp H
                obtain ⟨t158, A380, H⟩ := H
                replace H : ((spec_LsHTML.f kj8 l0 a1).bind fun t159 => (some (t158.toList == t159.toList))) = some r := H
                have A38 := Aside0.mk A380
                clear A380
                replace H := Option.bind_eq_some_iff.mp H
                obtain ⟨t159, A390, H⟩ := H
                replace H : (some (t158.toList == t159.toList)) = some r := H
                have A39 := Aside0.mk A390
                clear A390
                obtain rfl := Option.some.inj H
                go_wp2_with (first | ((with_reducible refine gate_callee (f := 11) rfl ?_); refine goesL_ (some 45) rfl rfl Try.func11 (by kernel_rfl) rfl #[.slice A0 l0.length c0] rfl (by (try simp only [List.map_toArray, List.map_cons, List.map_nil]); first | done | rfl | (simp only [List.length_drop, List.length_take]; rfl)) ?_; (with_reducible refine (spec_LsSteps.calls kj8 _ _ l0 t155 _ ?side1 ?side2 A37.out).mono ?_); (case side1 => repeat (first | exact (Kd.C_below HR0.out HB.out) | (with_reducible refine Kd.C_alloc ?_ _) | (with_reducible refine Kd.C_drewN ?_ _) | (with_reducible refine Kd.C_drew ?_))); (case side2 => exact HC0.out); rintro e w40 ⟨v156, rfl, ho0, hb⟩; refine ⟨_, rfl, ?_⟩; have n0_ := Aside0.mk (Kd.S_lower ho0 (below_size (by repeat (first | (with_reducible first | exact HB.out | apply below_alloc | apply pw_below_drewN | apply below_drew1) | exact HB.out)))); have n1_ := Aside0.mk (below_step (by repeat (first | (with_reducible first | exact HB.out | apply below_alloc | apply pw_below_drewN | apply below_drew1) | exact HB.out)) hb); clear HB; have HO157 := n0_; have HB := n1_; clear n0_ n1_; (try clear hb); (try clear hb2); (try clear hk); (try clear hi); (try clear ho0); obtain ⟨Ao41, co41, eo41⟩ := Kd.S_slice HO157.out; subst eo41) | ((with_reducible refine gate_callee (f := 10) rfl ?_); refine goesL_ (some 47) rfl rfl Try.func10 (by kernel_rfl) rfl #[.slice Ao41 t155.length co41, .string a1] rfl (by (try simp only [List.map_toArray, List.map_cons, List.map_nil]); first | done | rfl | (simp only [List.length_drop, List.length_take]; rfl)) ?_; (with_reducible refine (impl_ListHTML.calls _ _ t155 a1 t158 _ ?side1 ?side2 A38.out).mono ?_); (case side1 => repeat (first | exact (Kd.S_reads' HO157.out).2.2 | (with_reducible refine Kd.C_alloc ?_ _) | (with_reducible refine Kd.C_drewN ?_ _) | (with_reducible refine Kd.C_drew ?_))); (case side2 => exact (Kd.S_reads' HO157.out).2.1); rintro e w42 ⟨rfl, hb⟩; refine ⟨_, rfl, ?_⟩; have n0_ := Aside0.mk (Kd.S_below (by (with_reducible repeat (first | apply Kd.S_alloc | apply Kd.S_drewN | apply Kd.S_drew)); exact HO157.out) hb); have n1_ := Aside0.mk (below_step (by repeat (first | (with_reducible first | exact HB.out | apply below_alloc | apply pw_below_drewN | apply below_drew1) | exact HB.out)) hb); clear HO157; clear HB; have HO157 := n0_; have HB := n1_; clear n0_ n1_; (try clear hb); (try clear hb2); (try clear hk); (try clear hi)) | ((with_reducible refine gate_callee (f := 12) rfl ?_); refine goesL_ (some 50) rfl rfl Try.func12 (by kernel_rfl) rfl #[.slice A0 l0.length c0, .string a1] rfl (by (try simp only [List.map_toArray, List.map_cons, List.map_nil]); first | done | rfl | (simp only [List.length_drop, List.length_take]; rfl)) ?_; (with_reducible refine (spec_LsHTML.calls kj8 _ _ l0 a1 t159 _ ?side1 ?side2 A39.out).mono ?_); (case side1 => repeat (first | exact (Kd.C_below HR0.out HB.out) | (with_reducible refine Kd.C_alloc ?_ _) | (with_reducible refine Kd.C_drewN ?_ _) | (with_reducible refine Kd.C_drew ?_))); (case side2 => exact HC0.out); rintro e w43 ⟨rfl, hb⟩; refine ⟨_, rfl, ?_⟩; have n0_ := Aside0.mk (Kd.S_below (by (with_reducible repeat (first | apply Kd.S_alloc | apply Kd.S_drewN | apply Kd.S_drew)); exact HO157.out) hb); have n1_ := Aside0.mk (below_step (by repeat (first | (with_reducible first | exact HB.out | apply below_alloc | apply pw_below_drewN | apply below_drew1) | exact HB.out)) hb); clear HO157; clear HB; have HO157 := n0_; have HB := n1_; clear n0_ n1_; (try clear hb); (try clear hb2); (try clear hk); (try clear hi)))
                go_ret
                exact ⟨by first | rfl | (simp [errW_none, errW_some] <;> rfl) | (simp [*, errW_none, errW_some] <;> rfl), by repeat (first | (with_reducible first | exact HB.out | apply below_alloc | apply pw_below_drewN | apply below_drew1) | exact HB.out)⟩

end Go.Proofs.Ytphnnbbgcnilgaa.GFnListHTML
