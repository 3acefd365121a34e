-- printed by a program of this session (gprint.py) out of the translation; Lean checks it
import Derived.Test.YtkfkhafmgndgaaaRRGMx0
import Derived.Test.YtkfkhafmgndgaaaRRGMx2
import Derived.Test.YtkfkhafmgndgaaaRRGMx3
import Derived.Test.YtkfkhafmgndgaaaRRGivenMoves
namespace Go.Proofs.YtkfkhafmgndgaaaRR.GM
open Go.RowKit Go.Proofs.YtkfkhafmgndgaaaRRW.PrintWords Go.Proofs.YtkfkhafmgndgaaaRRW.PrintLast Go.Proofs.YtkfkhafmgndgaaaRR.GivenMoves Go.Proofs.YtkfkhafmgndgaaaRRW.PrintMore
attribute [local go_sem] max2_int min2_int max_two min_two max_three min_three max_four min_four   -- for this text's walks alone
set_option linter.unusedVariables false
set_option linter.unusedSimpArgs false

/-! ### laws_FnMoves: function 5 -/
mutual
def laws_FnMoves.j0 : Nat → List ByteArray → List (S50) → Bool → Option (Bool)
  | 0, _, _, _ => none
  | k + 1, x0, x1, x12 => if x12 = true then (some true) else (if (x0.length : Int) = 0 then (laws_FnMoves.j1 k x0 x1 true) else (if (x0.length : Int) > 50 then (laws_FnMoves.j1 k x0 x1 true) else (if (x1.length : Int) > 200 then (laws_FnMoves.j1 k x0 x1 true) else ((laws_texts.f k x0 5000).bind fun t151 => (if t151 = true then ((spec_MovesRight.f k x1).bind fun t152 => (laws_FnMoves.j1 k x0 x1 (!t152))) else (laws_FnMoves.j1 k x0 x1 true))))))
def laws_FnMoves.j1 : Nat → List ByteArray → List (S50) → Bool → Option (Bool)
  | 0, _, _, _ => none
  | k + 1, x0, x1, x35 => if x35 = true then (some true) else ((impl_Moves.f x0 x1).bind fun t153 => ((spec_Moves.f k x0 x1).bind fun t156 => ((spec_SamePages.f k t153 t156).bind fun t159 => (some t159))))
end
def laws_FnMoves.f (k : Nat) (l0 : List ByteArray) (l1 : List (S50)) : Option (Bool) := (laws_zzFits4.f k l0).bind fun t150 => (if t150 = true then (laws_FnMoves.j0 k l0 l1 (decide ((l1.length : Int) > 2147483647))) else (laws_FnMoves.j0 k l0 l1 true))
theorem laws_FnMoves.mono_l : ∀ k, (∀ y0 y1 y2, LeO (laws_FnMoves.j0 k y0 y1 y2) (laws_FnMoves.j0 (k + 1) y0 y1 y2)) ∧ (∀ y0 y1 y2, LeO (laws_FnMoves.j1 k y0 y1 y2) (laws_FnMoves.j1 (k + 1) y0 y1 y2))
  | 0 => ⟨fun _ _ _ r h => by simp [laws_FnMoves.j0] at h, fun _ _ _ r h => by simp [laws_FnMoves.j1] at h⟩
  | k + 1 => by
    obtain ⟨ih0, ih1⟩ := laws_FnMoves.mono_l k
    refine ⟨?_, ?_⟩
    · intro y0 y1 y2
      unfold laws_FnMoves.j0
      repeat' first
      | (with_reducible exact ih0 _ _ _)
      | (with_reducible exact ih1 _ _ _)
      | (with_reducible exact laws_texts.mono _ _ _)
      | (with_reducible exact laws_zzFits4.mono _ _)
      | (with_reducible exact spec_Moves.mono _ _ _)
      | (with_reducible exact spec_MovesRight.mono _ _)
      | (with_reducible exact spec_SamePages.mono _ _ _)
      | (with_reducible exact LeO.refl _)
      | (with_reducible exact LeO.none _)
      | (with_reducible refine LeO.ite ?_ ?_)
      | (with_reducible refine LeO.bind ?_ (fun _ => ?_))
      | exact ih0 _ _ _
      | exact ih1 _ _ _
      | exact laws_texts.mono _ _ _
      | exact laws_zzFits4.mono _ _
      | exact spec_Moves.mono _ _ _
      | exact spec_MovesRight.mono _ _
      | exact spec_SamePages.mono _ _ _
      | exact LeO.none _
      | refine LeO.ite ?_ ?_
      | refine LeO.bind ?_ (fun _ => ?_)
    · intro y0 y1 y2
      unfold laws_FnMoves.j1
      repeat' first
      | (with_reducible exact ih0 _ _ _)
      | (with_reducible exact ih1 _ _ _)
      | (with_reducible exact laws_texts.mono _ _ _)
      | (with_reducible exact laws_zzFits4.mono _ _)
      | (with_reducible exact spec_Moves.mono _ _ _)
      | (with_reducible exact spec_MovesRight.mono _ _)
      | (with_reducible exact spec_SamePages.mono _ _ _)
      | (with_reducible exact LeO.refl _)
      | (with_reducible exact LeO.none _)
      | (with_reducible refine LeO.ite ?_ ?_)
      | (with_reducible refine LeO.bind ?_ (fun _ => ?_))
      | exact ih0 _ _ _
      | exact ih1 _ _ _
      | exact laws_texts.mono _ _ _
      | exact laws_zzFits4.mono _ _
      | exact spec_Moves.mono _ _ _
      | exact spec_MovesRight.mono _ _
      | exact spec_SamePages.mono _ _ _
      | exact LeO.none _
      | refine LeO.ite ?_ ?_
      | refine LeO.bind ?_ (fun _ => ?_)
theorem laws_FnMoves.mono : ∀ a0 a1 k, LeO (laws_FnMoves.f k a0 a1) (laws_FnMoves.f (k + 1) a0 a1) := by
  intro a0 a1 k
  obtain ⟨ih0, ih1⟩ := laws_FnMoves.mono_l k
  unfold laws_FnMoves.f
  repeat' first
      | (with_reducible exact ih0 _ _ _)
      | (with_reducible exact ih1 _ _ _)
      | (with_reducible exact laws_texts.mono _ _ _)
      | (with_reducible exact laws_zzFits4.mono _ _)
      | (with_reducible exact spec_Moves.mono _ _ _)
      | (with_reducible exact spec_MovesRight.mono _ _)
      | (with_reducible exact spec_SamePages.mono _ _ _)
      | (with_reducible exact LeO.refl _)
      | (with_reducible exact LeO.none _)
      | (with_reducible refine LeO.ite ?_ ?_)
      | (with_reducible refine LeO.bind ?_ (fun _ => ?_))
      | exact ih0 _ _ _
      | exact ih1 _ _ _
      | exact laws_texts.mono _ _ _
      | exact laws_zzFits4.mono _ _
      | exact spec_Moves.mono _ _ _
      | exact spec_MovesRight.mono _ _
      | exact spec_SamePages.mono _ _ _
      | exact LeO.none _
      | refine LeO.ite ?_ ?_
      | refine LeO.bind ?_ (fun _ => ?_)
set_option maxHeartbeats 8000000 in
set_option maxRecDepth 100000 in
theorem laws_FnMoves.calls (k : Nat) (A0 : Option Addr) (c0 : Nat) (l0 : List ByteArray) (A1 : Option Addr) (c1 : Nat) (l1 : List (S50)) (r : Bool) (w : World) (hr0 : Kd.C Kd.string w A0 l0.length l0) (hc0 : l0.length ≤ c0) (hr1 : Kd.C k50 w A1 l1.length l1) (hc1 : l1.length ≤ c1) (h : laws_FnMoves.f k l0 l1 = some r) :
    Calls Try.prog 5 #[.slice A0 l0.length c0, .slice A1 l1.length c1] w fun e w' => e = .returned (.bool r) ∧ Below w.heap.size w w' := by
  have HR0 := Aside0.mk hr0
  have HC0 := Aside0.mk hc0
  clear hr0 hc0
  have HR1 := Aside0.mk hr1
  have HC1 := Aside0.mk hc1
  clear hr1 hc1
  have HB := Aside0.mk (Below.refl w.heap.size w)
  have H : ((laws_zzFits4.f k l0).bind fun t150 => (if t150 = true then (laws_FnMoves.j0 k l0 l1 (decide ((l1.length : Int) > 2147483647))) else (laws_FnMoves.j0 k l0 l1 true))) = some r := h
  clear h
  have HC3 := Aside0.mk H
  clear H
  go_enter Try.func5, Try.ntmps5
  go_upto_region 1 with (fail)
  go_cut [12] (fun v12 wc => ∃ (kq : Nat) (x12_2 : Bool), v12 = .bool x12_2 ∧ Aside0 (laws_FnMoves.j0 kq l0 l1 x12_2 = some r) ∧ Aside0 (kq ≤ k) ∧ Aside0 (Below w.heap.size w wc))
  case first =>
    have H := HC3.out
    clear HC3
    replace H := Option.bind_eq_some_iff.mp H
    obtain ⟨t150, A40, H⟩ := H
    replace H : (if t150 = true then (laws_FnMoves.j0 k l0 l1 (decide ((l1.length : Int) > 2147483647))) else (laws_FnMoves.j0 k l0 l1 true)) = some r := H
    have A4 := Aside0.mk A40
    clear A40
    by_cases c5 : t150 = true
    · subst c5
      have H1 : (laws_FnMoves.j0 k l0 l1 (decide ((l1.length : Int) > 2147483647))) = some r := by rw [if_pos rfl] at H; exact H
      clear H
      have H := H1
      clear H1
      have H' := Aside0.mk H
      clear H
      go_wp2_with (first | ((with_reducible refine gate_callee (f := 13) rfl ?_); refine goesL_ (some 6) rfl rfl Try.func13 (by kernel_rfl) rfl #[.slice A0 l0.length c0] rfl (by (try simp only [List.map_toArray, List.map_cons, List.map_nil]); first | done | rfl | (simp only [List.length_drop, List.length_take]; rfl)) ?_; (with_reducible refine (laws_zzFits4.calls k _ _ l0 true _ ?side1 ?side2 A4.out).mono ?_); (case side1 => repeat (first | exact (Kd.C_below HR0.out HB.out) | (with_reducible refine Kd.C_alloc ?_ _) | (with_reducible refine Kd.C_drewN ?_ _) | (with_reducible refine Kd.C_drew ?_))); (case side2 => exact HC0.out); rintro e w' ⟨rfl, ⟨nd, rfl⟩⟩; refine ⟨_, rfl, ?_⟩))
      go_meet
      case rel => exact ⟨_, (decide ((l1.length : Int) > 2147483647)), (by first | rfl | (simp; done) | (simp [*]; done)), H', ⟨by first | omega | exact Nat.le_refl _⟩, ⟨by repeat (first | (with_reducible first | exact HB.out | apply below_alloc | apply pw_below_drewN | apply below_drew1) | exact HB.out)⟩⟩
    · replace c5 := Bool.eq_false_iff.mpr c5
      subst c5
      have H1 : (laws_FnMoves.j0 k l0 l1 true) = some r := by rw [if_neg (show ¬ (false = true) by decide)] at H; exact H
      clear H
      have H := H1
      clear H1
      have H' := Aside0.mk H
      clear H
      go_wp2_with (first | ((with_reducible refine gate_callee (f := 13) rfl ?_); refine goesL_ (some 6) rfl rfl Try.func13 (by kernel_rfl) rfl #[.slice A0 l0.length c0] rfl (by (try simp only [List.map_toArray, List.map_cons, List.map_nil]); first | done | rfl | (simp only [List.length_drop, List.length_take]; rfl)) ?_; (with_reducible refine (laws_zzFits4.calls k _ _ l0 false _ ?side1 ?side2 A4.out).mono ?_); (case side1 => repeat (first | exact (Kd.C_below HR0.out HB.out) | (with_reducible refine Kd.C_alloc ?_ _) | (with_reducible refine Kd.C_drewN ?_ _) | (with_reducible refine Kd.C_drew ?_))); (case side2 => exact HC0.out); rintro e w' ⟨rfl, ⟨nd, rfl⟩⟩; refine ⟨_, rfl, ?_⟩))
      go_meet
      case rel => exact ⟨_, (true), (by first | rfl | (simp; done) | (simp [*]; done)), H', ⟨by first | omega | exact Nat.le_refl _⟩, ⟨by repeat (first | (with_reducible first | exact HB.out | apply below_alloc | apply pw_below_drewN | apply below_drew1) | exact HB.out)⟩⟩
  case rest =>
    clear HC3
    try clear c1
    try clear p2
    try clear c5
    obtain ⟨kq, x12_2, rfl, HA, HJ2, HB⟩ := hcut
    cases kq with
    | zero => exact absurd HA.out (by simp [laws_FnMoves.j0])
    | succ kj2 =>
      have H := HA.out
      clear HA
      simp only [laws_FnMoves.j0] at H
      by_cases c6 : x12_2 = true
      · subst c6
        have H1 : (some true) = some r := by rw [if_pos rfl] at H; exact H
        clear H
        have H := H1
        clear H1
        obtain rfl := Option.some.inj H
        go_wp2
        go_ret
        exact ⟨by first | rfl | (simp [errW_none, errW_some] <;> rfl) | (simp [*, errW_none, errW_some] <;> rfl), by repeat (first | (with_reducible first | exact HB.out | apply below_alloc | apply pw_below_drewN | apply below_drew1) | exact HB.out)⟩
      · replace c6 := Bool.eq_false_iff.mpr c6
        subst c6
        have H1 : (if (l0.length : Int) = 0 then (laws_FnMoves.j1 kj2 l0 l1 true) else (if (l0.length : Int) > 50 then (laws_FnMoves.j1 kj2 l0 l1 true) else (if (l1.length : Int) > 200 then (laws_FnMoves.j1 kj2 l0 l1 true) else ((laws_texts.f kj2 l0 5000).bind fun t151 => (if t151 = true then ((spec_MovesRight.f kj2 l1).bind fun t152 => (laws_FnMoves.j1 kj2 l0 l1 (!t152))) else (laws_FnMoves.j1 kj2 l0 l1 true)))))) = some r := by rw [if_neg (show ¬ (false = true) by decide)] at H; exact H
        clear H
        have H := H1
        clear H1
        have HC7 := Aside0.mk H
        clear H
        go_upto_region 3 with (fail)
        go_cut [35] (fun v35 wc => ∃ (kq : Nat) (x35_6 : Bool), v35 = .bool x35_6 ∧ Aside0 (laws_FnMoves.j1 kq l0 l1 x35_6 = some r) ∧ Aside0 (kq ≤ kj2) ∧ Aside0 (Below w.heap.size w wc))
        case first =>
          have H := HC7.out
          clear HC7
          by_cases c8 : (l0.length : Int) = 0
          · rw [if_pos c8] at H
            have c8b0 : ((l0.length : Int) == 0) = true := beq_iff_eq.mpr c8
            have c8b1 : ((l0.length : Int) != 0) = false := bne_eq_false_iff_eq.mpr c8
            clear c8
            (first | rw [c8b0] | (simp only [i64_w, i32_w]; rw [c8b0]) | skip)
            have H' := Aside0.mk H
            clear H
            go_wp2
            go_meet
            case rel => exact ⟨_, (true), (by first | rfl | (simp; done) | (simp [*]; done)), H', ⟨by have := HJ2.out; first | omega | exact Nat.le_refl _⟩, ⟨by repeat (first | (with_reducible first | exact HB.out | apply below_alloc | apply pw_below_drewN | apply below_drew1) | exact HB.out)⟩⟩
          · rw [if_neg c8] at H
            have c8b0 : ((l0.length : Int) == 0) = false := beq_eq_false_iff_ne.mpr c8
            have c8b1 : ((l0.length : Int) != 0) = true := bne_iff_ne.mpr c8
            have c8b2 : ¬ (l0 = []) := fun h_ => c8 (by rw [h_]; rfl)
            (first | rw [c8b0] | (simp only [i64_w, i32_w]; rw [c8b0]) | skip)
            by_cases c9 : (l0.length : Int) > 50
            · rw [if_pos c9] at H
              have c9b0 : decide (50 < (l0.length : Int)) = true := decide_eq_true c9
              have c9b1 : decide (50 < l0.length) = true := decide_eq_true (by omega)
              clear c9
              have H' := Aside0.mk H
              clear H
              go_wp2
              go_meet
              case rel => exact ⟨_, (true), (by first | rfl | (simp; done) | (simp [*]; done)), H', ⟨by have := HJ2.out; first | omega | exact Nat.le_refl _⟩, ⟨by repeat (first | (with_reducible first | exact HB.out | apply below_alloc | apply pw_below_drewN | apply below_drew1) | exact HB.out)⟩⟩
            · rw [if_neg c9] at H
              have c9b0 : decide (50 < (l0.length : Int)) = false := decide_eq_false c9
              have c9b1 : decide (50 < l0.length) = false := decide_eq_false (by omega)
              clear c9
              by_cases c10 : (l1.length : Int) > 200
              · rw [if_pos c10] at H
                have c10b0 : decide (200 < (l1.length : Int)) = true := decide_eq_true c10
                have c10b1 : decide (200 < l1.length) = true := decide_eq_true (by omega)
                clear c10
                have H' := Aside0.mk H
                clear H
                go_wp2
                go_meet
                case rel => exact ⟨_, (true), (by first | rfl | (simp; done) | (simp [*]; done)), H', ⟨by have := HJ2.out; first | omega | exact Nat.le_refl _⟩, ⟨by repeat (first | (with_reducible first | exact HB.out | apply below_alloc | apply pw_below_drewN | apply below_drew1) | exact HB.out)⟩⟩
              · rw [if_neg c10] at H
                have c10b0 : decide (200 < (l1.length : Int)) = false := decide_eq_false c10
                have c10b1 : decide (200 < l1.length) = false := decide_eq_false (by omega)
                clear c10
                replace H := Option.bind_eq_some_iff.mp H
                obtain ⟨t151, A110, H⟩ := H
                replace H : (if t151 = true then ((spec_MovesRight.f kj2 l1).bind fun t152 => (laws_FnMoves.j1 kj2 l0 l1 (!t152))) else (laws_FnMoves.j1 kj2 l0 l1 true)) = some r := H
                have A11 := Aside0.mk A110
                clear A110
                by_cases c12 : t151 = true
                · subst c12
                  have H1 : ((spec_MovesRight.f kj2 l1).bind fun t152 => (laws_FnMoves.j1 kj2 l0 l1 (!t152))) = some r := by rw [if_pos rfl] at H; exact H
                  clear H
                  have H := H1
                  clear H1
                  replace H := Option.bind_eq_some_iff.mp H
                  obtain ⟨t152, A130, H⟩ := H
                  replace H : (laws_FnMoves.j1 kj2 l0 l1 (!t152)) = some r := H
                  have A13 := Aside0.mk A130
                  clear A130
                  have H' := Aside0.mk H
                  clear H
                  go_wp2_with (first | (go_at_call 14; (with_reducible refine (laws_texts.calls kj2 _ _ l0 5000 true _ ?side1 ?side2 A11.out).mono ?_); (case side1 => repeat (first | exact (Kd.C_below HR0.out HB.out) | (with_reducible refine Kd.C_alloc ?_ _) | (with_reducible refine Kd.C_drewN ?_ _) | (with_reducible refine Kd.C_drew ?_))); (case side2 => exact HC0.out); rintro e w' ⟨rfl, ⟨nd, rfl⟩⟩) | (go_at_call 15; (with_reducible refine (spec_MovesRight.calls kj2 _ _ l1 t152 _ ?side1 ?side2 A13.out).mono ?_); (case side1 => repeat (first | exact (Kd.C_below HR1.out (by repeat (first | (with_reducible first | exact HB.out | apply below_alloc | apply pw_below_drewN | apply below_drew1) | exact HB.out))) | (with_reducible refine Kd.C_alloc ?_ _) | (with_reducible refine Kd.C_drewN ?_ _) | (with_reducible refine Kd.C_drew ?_))); (case side2 => exact HC1.out); rintro e w' ⟨rfl, ⟨nd, rfl⟩⟩))
                  go_meet
                  case rel => exact ⟨_, (!t152), (by first | rfl | (simp; done) | (simp [*]; done)), H', ⟨by have := HJ2.out; first | omega | exact Nat.le_refl _⟩, ⟨by repeat (first | (with_reducible first | exact HB.out | apply below_alloc | apply pw_below_drewN | apply below_drew1) | exact HB.out)⟩⟩
                · replace c12 := Bool.eq_false_iff.mpr c12
                  subst c12
                  have H1 : (laws_FnMoves.j1 kj2 l0 l1 true) = some r := by rw [if_neg (show ¬ (false = true) by decide)] at H; exact H
                  clear H
                  have H := H1
                  clear H1
                  have H' := Aside0.mk H
                  clear H
                  go_wp2_with (first | (go_at_call 14; (with_reducible refine (laws_texts.calls kj2 _ _ l0 5000 false _ ?side1 ?side2 A11.out).mono ?_); (case side1 => repeat (first | exact (Kd.C_below HR0.out HB.out) | (with_reducible refine Kd.C_alloc ?_ _) | (with_reducible refine Kd.C_drewN ?_ _) | (with_reducible refine Kd.C_drew ?_))); (case side2 => exact HC0.out); rintro e w' ⟨rfl, ⟨nd, rfl⟩⟩))
                  go_meet
                  case rel => exact ⟨_, (true), (by first | rfl | (simp; done) | (simp [*]; done)), H', ⟨by have := HJ2.out; first | omega | exact Nat.le_refl _⟩, ⟨by repeat (first | (with_reducible first | exact HB.out | apply below_alloc | apply pw_below_drewN | apply below_drew1) | exact HB.out)⟩⟩
        case rest =>
          clear HC7
          try clear c1
          try clear p2
          try clear c5
          try clear c6
          try clear c8
          try clear c8b0
          try clear c8b1
          try clear c8b2
          try clear c9
          try clear c9b0
          try clear c9b1
          try clear c10
          try clear c10b0
          try clear c10b1
          try clear c12
          try clear c13
          try clear p2
          obtain ⟨kq, x35_6, rfl, HA, HJ6, HB⟩ := hcut
          cases kq with
          | zero => exact absurd HA.out (by simp [laws_FnMoves.j1])
          | succ kj6 =>
            have H := HA.out
            clear HA
            simp only [laws_FnMoves.j1] at H
            by_cases c14 : x35_6 = true
            · subst c14
              have H1 : (some true) = some r := by rw [if_pos rfl] at H; exact H
              clear H
              have H := H1
              clear H1
              obtain rfl := Option.some.inj H
              go_wp2
              go_ret
              exact ⟨by first | rfl | (simp [errW_none, errW_some] <;> rfl) | (simp [*, errW_none, errW_some] <;> rfl), by repeat (first | (with_reducible first | exact HB.out | apply below_alloc | apply pw_below_drewN | apply below_drew1) | exact HB.out)⟩
            · replace c14 := Bool.eq_false_iff.mpr c14
              subst c14
              have H1 : ((impl_Moves.f l0 l1).bind fun t153 => ((spec_Moves.f kj6 l0 l1).bind fun t156 => ((spec_SamePages.f kj6 t153 t156).bind fun t159 => (some t159)))) = some r := by rw [if_neg (show ¬ (false = true) by decide)] at H; exact H
              clear H
              have H := H1
              clear H1
              replace H := Option.bind_eq_some_iff.mp H
              obtain ⟨t153, A150, H⟩ := H
              replace H : ((spec_Moves.f kj6 l0 l1).bind fun t156 => ((spec_SamePages.f kj6 t153 t156).bind fun t159 => (some t159))) = some r := H
              have A15 := Aside0.mk A150
              clear A150
              replace H := Option.bind_eq_some_iff.mp H
              obtain ⟨t156, A160, H⟩ := H
              replace H : ((spec_SamePages.f kj6 t153 t156).bind fun t159 => (some t159)) = some r := H
              have A16 := Aside0.mk A160
              clear A160
              replace H := Option.bind_eq_some_iff.mp H
              obtain ⟨t159, A170, H⟩ := H
              replace H : (some t159) = some r := H
              have A17 := Aside0.mk A170
              clear A170
              obtain rfl := Option.some.inj H
              go_wp2_with (first | ((with_reducible refine gate_callee (f := 17) rfl ?_); refine goesL_ (some 38) rfl rfl Try.func17 (by kernel_rfl) rfl #[.slice A0 l0.length c0, .slice A1 l1.length c1] rfl (by (try simp only [List.map_toArray, List.map_cons, List.map_nil]); first | done | rfl | (simp only [List.length_drop, List.length_take]; rfl)) ?_; (with_reducible refine (impl_Moves.calls _ _ l0 _ _ l1 t153 _ ?side1 ?side2 ?side3 ?side4 A15.out).mono ?_); (case side1 => repeat (first | exact (Kd.C_below HR0.out HB.out) | (with_reducible refine Kd.C_alloc ?_ _) | (with_reducible refine Kd.C_drewN ?_ _) | (with_reducible refine Kd.C_drew ?_))); (case side2 => exact HC0.out); (case side3 => repeat (first | exact (Kd.C_below HR1.out HB.out) | (with_reducible refine Kd.C_alloc ?_ _) | (with_reducible refine Kd.C_drewN ?_ _) | (with_reducible refine Kd.C_drew ?_))); (case side4 => exact HC1.out); rintro e w18 ⟨v154, rfl, ho0, hb⟩; refine ⟨_, rfl, ?_⟩; have n0_ := Aside0.mk (Kd.R_lower ho0 (below_size (by repeat (first | (with_reducible first | exact HB.out | apply below_alloc | apply pw_below_drewN | apply below_drew1) | exact HB.out)))); have n1_ := Aside0.mk (below_step (by repeat (first | (with_reducible first | exact HB.out | apply below_alloc | apply pw_below_drewN | apply below_drew1) | exact HB.out)) hb); clear HB; have HO155 := n0_; have HB := n1_; clear n0_ n1_; (try clear hb); (try clear hb2); (try clear hk); (try clear hi); (try clear ho0)) | ((with_reducible refine gate_callee (f := 18) rfl ?_); refine goesL_ (some 41) rfl rfl Try.func18 (by kernel_rfl) rfl #[.slice A0 l0.length c0, .slice A1 l1.length c1] rfl (by (try simp only [List.map_toArray, List.map_cons, List.map_nil]); first | done | rfl | (simp only [List.length_drop, List.length_take]; rfl)) ?_; (with_reducible refine (spec_Moves.calls kj6 _ _ l0 _ _ l1 t156 _ ?side1 ?side2 ?side3 ?side4 A16.out).mono ?_); (case side1 => repeat (first | exact (Kd.C_below HR0.out HB.out) | (with_reducible refine Kd.C_alloc ?_ _) | (with_reducible refine Kd.C_drewN ?_ _) | (with_reducible refine Kd.C_drew ?_))); (case side2 => exact HC0.out); (case side3 => repeat (first | exact (Kd.C_below HR1.out HB.out) | (with_reducible refine Kd.C_alloc ?_ _) | (with_reducible refine Kd.C_drewN ?_ _) | (with_reducible refine Kd.C_drew ?_))); (case side4 => exact HC1.out); rintro e w19 ⟨v157, rfl, ho0, hb⟩; refine ⟨_, rfl, ?_⟩; have n0_ := Aside0.mk (Kd.R_elder' (by (with_reducible repeat (first | apply Kd.R_alloc | apply Kd.R_drewN | apply Kd.R_drew)); exact HO155.out) (Kd.R_base ho0) hb); have n1_ := Aside0.mk (Kd.R_lower (Kd.R_new' ho0 (Kd.R_lt (by (with_reducible repeat (first | apply Kd.R_alloc | apply Kd.R_drewN | apply Kd.R_drew)); exact HO155.out))) (below_size (by repeat (first | (with_reducible first | exact HB.out | apply below_alloc | apply pw_below_drewN | apply below_drew1) | exact HB.out)))); have n2_ := Aside0.mk (below_step (by repeat (first | (with_reducible first | exact HB.out | apply below_alloc | apply pw_below_drewN | apply below_drew1) | exact HB.out)) hb); clear HO155; clear HB; have HO155 := n0_; have HO158 := n1_; have HB := n2_; clear n0_ n1_ n2_; (try clear hb); (try clear hb2); (try clear hk); (try clear hi); (try clear ho0); obtain ⟨Ao20, co20, eo20⟩ := Kd.R_slice HO155.out; subst eo20; obtain ⟨Ao21, co21, eo21⟩ := Kd.R_slice HO158.out; subst eo21) | ((with_reducible refine gate_callee (f := 16) rfl ?_); refine goesL_ (some 42) rfl rfl Try.func16 (by kernel_rfl) rfl #[.slice Ao20 t153.length co20, .slice Ao21 t156.length co21] rfl (by (try simp only [List.map_toArray, List.map_cons, List.map_nil]); first | done | rfl | (simp only [List.length_drop, List.length_take]; rfl)) ?_; (with_reducible refine (spec_SamePages.calls kj6 _ _ t153 _ _ t156 t159 _ ?side1 ?side2 ?side3 ?side4 A17.out).mono ?_); (case side1 => repeat (first | exact (Kd.R_reads' HO155.out).2.2 | (with_reducible refine Kd.C_alloc ?_ _) | (with_reducible refine Kd.C_drewN ?_ _) | (with_reducible refine Kd.C_drew ?_))); (case side2 => exact (Kd.R_reads' HO155.out).2.1); (case side3 => repeat (first | exact (Kd.R_reads' HO158.out).2.2 | (with_reducible refine Kd.C_alloc ?_ _) | (with_reducible refine Kd.C_drewN ?_ _) | (with_reducible refine Kd.C_drew ?_))); (case side4 => exact (Kd.R_reads' HO158.out).2.1); rintro e w' ⟨rfl, ⟨nd, rfl⟩⟩; refine ⟨_, rfl, ?_⟩))
              go_ret
              exact ⟨by first | rfl | (simp [errW_none, errW_some] <;> rfl) | (simp [*, errW_none, errW_some] <;> rfl), by repeat (first | (with_reducible first | exact HB.out | apply below_alloc | apply pw_below_drewN | apply below_drew1) | exact HB.out)⟩

end Go.Proofs.YtkfkhafmgndgaaaRR.GM
