-- printed by a program of this session (gprint.py) out of the translation; Lean checks it
import Derived.Test.YtkfkhafmgndgaaaRRGMx0
import Derived.Test.YtkfkhafmgndgaaaRRGMx2
import Derived.Test.YtkfkhafmgndgaaaRRGivenMoves
namespace Go.Proofs.YtkfkhafmgndgaaaRR.GM
open Go.RowKit Go.Proofs.YtkfkhafmgndgaaaRRW.PrintWords Go.Proofs.YtkfkhafmgndgaaaRRW.PrintLast Go.Proofs.YtkfkhafmgndgaaaRR.GivenMoves Go.Proofs.YtkfkhafmgndgaaaRRW.PrintMore
attribute [local go_sem] max2_int min2_int max_two min_two max_three min_three max_four min_four   -- for this text's walks alone
set_option linter.unusedVariables false
set_option linter.unusedSimpArgs false

/-! ### laws_FnMovesEnds: function 6 -/
mutual
def laws_FnMovesEnds.j0 : Nat → List ByteArray → List (S50) → Bool → Option (Bool)
  | 0, _, _, _ => none
  | k + 1, x0, x1, x14 => if x14 = true then (some true) else (if (x0.length : Int) = 0 then (laws_FnMovesEnds.j1 k x0 x1 true) else (if (x0.length : Int) > 50 then (laws_FnMovesEnds.j1 k x0 x1 true) else (if (x1.length : Int) > 100 then (laws_FnMovesEnds.j1 k x0 x1 true) else ((laws_texts.f k x0 5000).bind fun t161 => (if t161 = true then ((spec_MovesRight.f k x1).bind fun t162 => (laws_FnMovesEnds.j1 k x0 x1 (!t162))) else (laws_FnMovesEnds.j1 k x0 x1 true))))))
def laws_FnMovesEnds.j1 : Nat → List ByteArray → List (S50) → Bool → Option (Bool)
  | 0, _, _, _ => none
  | k + 1, x0, x1, x37 => if x37 = true then (some true) else ((some (([] : List (S50)) : List (S50))).bind fun y163 => (if y163.length + x1.length < 8796093022208 then ((some (y163 ++ x1 : List (S50))).bind fun y166 => ((some (([(⟨4, 0⟩ : S50), (⟨0, 0⟩ : S50), (⟨1, 0⟩ : S50), (⟨4, 0⟩ : S50)] : List (S50)) : List (S50))).bind fun y169 => (if y166.length + y169.length < 8796093022208 then ((impl_Moves.f x0 (y166 ++ y169)).bind fun t175 => (if (t175.length : Int) = (wrap64 ((x1.length : Int) + 4)) then (if 0 ≤ (x1.length : Int) then (if (x1.length : Int) < (t175.length : Int) then (if ((rd_T52 t175 (x1.length : Int)).f1) < 1 then (laws_FnMovesEnds.j2 k x0 t175 (x1.length : Int) true) else (if ((rd_T52 t175 (x1.length : Int)).f1) > (x0.length : Int) then (laws_FnMovesEnds.j2 k x0 t175 (x1.length : Int) true) else (if 0 ≤ (wrap64 ((x1.length : Int) + 3)) then (if (wrap64 ((x1.length : Int) + 3)) < (t175.length : Int) then (laws_FnMovesEnds.j2 k x0 t175 (x1.length : Int) (decide (((rd_T52 t175 (wrap64 ((x1.length : Int) + 3))).f1) < 1))) else (none)) else (none)))) else (none)) else (none)) else (laws_FnMovesEnds.j2 k x0 t175 (x1.length : Int) true))) else (none)))) else (none)))
def laws_FnMovesEnds.j2 : Nat → List ByteArray → List (S52) → Int → Bool → Option (Bool)
  | 0, _, _, _, _ => none
  | k + 1, x0, x5, x6, x82 => if x82 = true then (some false) else (if 0 ≤ x6 then (if x6 < (x5.length : Int) then (if ((rd_T52 x5 x6).f1) = (x0.length : Int) then (if 0 ≤ (wrap64 (x6 + 3)) then (if (wrap64 (x6 + 3)) < (x5.length : Int) then (some (((rd_T52 x5 (wrap64 (x6 + 3))).f1) == (mx 1 (wrap64 ((x0.length : Int) - 1))))) else (none)) else (none)) else (if 0 ≤ (wrap64 (x6 + 3)) then (if (wrap64 (x6 + 3)) < (x5.length : Int) then (if ((rd_T52 x5 (wrap64 (x6 + 3))).f1) = ((rd_T52 x5 x6).f1) then (if 0 ≤ (wrap64 (x6 + 2)) then (if (wrap64 (x6 + 2)) < (x5.length : Int) then (if 0 ≤ (wrap64 (((rd_T52 x5 x6).f1) - 1)) then (if (wrap64 (((rd_T52 x5 x6).f1) - 1)) < (x0.length : Int) then (some (((rd_T52 x5 (wrap64 (x6 + 2))).f0).toList == (rdOf ByteArray.empty x0 (wrap64 (((rd_T52 x5 x6).f1) - 1))).toList)) else (none)) else (none)) else (none)) else (none)) else (some false)) else (none)) else (none))) else (none)) else (none))
end
def laws_FnMovesEnds.f (k : Nat) (l0 : List ByteArray) (l1 : List (S50)) : Option (Bool) := (laws_zzFits4.f k l0).bind fun t160 => (if t160 = true then (laws_FnMovesEnds.j0 k l0 l1 (decide ((l1.length : Int) > 2147483647))) else (laws_FnMovesEnds.j0 k l0 l1 true))
theorem laws_FnMovesEnds.mono_l : ∀ k, (∀ y0 y1 y2, LeO (laws_FnMovesEnds.j0 k y0 y1 y2) (laws_FnMovesEnds.j0 (k + 1) y0 y1 y2)) ∧ (∀ y0 y1 y2, LeO (laws_FnMovesEnds.j1 k y0 y1 y2) (laws_FnMovesEnds.j1 (k + 1) y0 y1 y2)) ∧ (∀ y0 y1 y2 y3, LeO (laws_FnMovesEnds.j2 k y0 y1 y2 y3) (laws_FnMovesEnds.j2 (k + 1) y0 y1 y2 y3))
  | 0 => ⟨fun _ _ _ r h => by simp [laws_FnMovesEnds.j0] at h, fun _ _ _ r h => by simp [laws_FnMovesEnds.j1] at h, fun _ _ _ _ r h => by simp [laws_FnMovesEnds.j2] at h⟩
  | k + 1 => by
    obtain ⟨ih0, ih1, ih2⟩ := laws_FnMovesEnds.mono_l k
    refine ⟨?_, ?_, ?_⟩
    · intro y0 y1 y2
      unfold laws_FnMovesEnds.j0
      repeat' first
      | (with_reducible exact ih0 _ _ _)
      | (with_reducible exact ih1 _ _ _)
      | (with_reducible exact ih2 _ _ _ _)
      | (with_reducible exact laws_texts.mono _ _ _)
      | (with_reducible exact laws_zzFits4.mono _ _)
      | (with_reducible exact spec_MovesRight.mono _ _)
      | (with_reducible exact LeO.refl _)
      | (with_reducible exact LeO.none _)
      | (with_reducible refine LeO.ite ?_ ?_)
      | (with_reducible refine LeO.bind ?_ (fun _ => ?_))
      | exact ih0 _ _ _
      | exact ih1 _ _ _
      | exact ih2 _ _ _ _
      | exact laws_texts.mono _ _ _
      | exact laws_zzFits4.mono _ _
      | exact spec_MovesRight.mono _ _
      | exact LeO.none _
      | refine LeO.ite ?_ ?_
      | refine LeO.bind ?_ (fun _ => ?_)
    · intro y0 y1 y2
      unfold laws_FnMovesEnds.j1
      repeat' first
      | (with_reducible exact ih0 _ _ _)
      | (with_reducible exact ih1 _ _ _)
      | (with_reducible exact ih2 _ _ _ _)
      | (with_reducible exact laws_texts.mono _ _ _)
      | (with_reducible exact laws_zzFits4.mono _ _)
      | (with_reducible exact spec_MovesRight.mono _ _)
      | (with_reducible exact LeO.refl _)
      | (with_reducible exact LeO.none _)
      | (with_reducible refine LeO.ite ?_ ?_)
      | (with_reducible refine LeO.bind ?_ (fun _ => ?_))
      | exact ih0 _ _ _
      | exact ih1 _ _ _
      | exact ih2 _ _ _ _
      | exact laws_texts.mono _ _ _
      | exact laws_zzFits4.mono _ _
      | exact spec_MovesRight.mono _ _
      | exact LeO.none _
      | refine LeO.ite ?_ ?_
      | refine LeO.bind ?_ (fun _ => ?_)
    · intro y0 y1 y2 y3
      unfold laws_FnMovesEnds.j2
      repeat' first
      | (with_reducible exact ih0 _ _ _)
      | (with_reducible exact ih1 _ _ _)
      | (with_reducible exact ih2 _ _ _ _)
      | (with_reducible exact laws_texts.mono _ _ _)
      | (with_reducible exact laws_zzFits4.mono _ _)
      | (with_reducible exact spec_MovesRight.mono _ _)
      | (with_reducible exact LeO.refl _)
      | (with_reducible exact LeO.none _)
      | (with_reducible refine LeO.ite ?_ ?_)
      | (with_reducible refine LeO.bind ?_ (fun _ => ?_))
      | exact ih0 _ _ _
      | exact ih1 _ _ _
      | exact ih2 _ _ _ _
      | exact laws_texts.mono _ _ _
      | exact laws_zzFits4.mono _ _
      | exact spec_MovesRight.mono _ _
      | exact LeO.none _
      | refine LeO.ite ?_ ?_
      | refine LeO.bind ?_ (fun _ => ?_)
theorem laws_FnMovesEnds.mono : ∀ a0 a1 k, LeO (laws_FnMovesEnds.f k a0 a1) (laws_FnMovesEnds.f (k + 1) a0 a1) := by
  intro a0 a1 k
  obtain ⟨ih0, ih1, ih2⟩ := laws_FnMovesEnds.mono_l k
  unfold laws_FnMovesEnds.f
  repeat' first
      | (with_reducible exact ih0 _ _ _)
      | (with_reducible exact ih1 _ _ _)
      | (with_reducible exact ih2 _ _ _ _)
      | (with_reducible exact laws_texts.mono _ _ _)
      | (with_reducible exact laws_zzFits4.mono _ _)
      | (with_reducible exact spec_MovesRight.mono _ _)
      | (with_reducible exact LeO.refl _)
      | (with_reducible exact LeO.none _)
      | (with_reducible refine LeO.ite ?_ ?_)
      | (with_reducible refine LeO.bind ?_ (fun _ => ?_))
      | exact ih0 _ _ _
      | exact ih1 _ _ _
      | exact ih2 _ _ _ _
      | exact laws_texts.mono _ _ _
      | exact laws_zzFits4.mono _ _
      | exact spec_MovesRight.mono _ _
      | exact LeO.none _
      | refine LeO.ite ?_ ?_
      | refine LeO.bind ?_ (fun _ => ?_)
set_option maxHeartbeats 8000000 in
set_option maxRecDepth 100000 in
theorem laws_FnMovesEnds.calls (k : Nat) (A0 : Option Addr) (c0 : Nat) (l0 : List ByteArray) (A1 : Option Addr) (c1 : Nat) (l1 : List (S50)) (r : Bool) (w : World) (hr0 : Kd.C Kd.string w A0 l0.length l0) (hc0 : l0.length ≤ c0) (hr1 : Kd.C k50 w A1 l1.length l1) (hc1 : l1.length ≤ c1) (h : laws_FnMovesEnds.f k l0 l1 = some r) :
    Calls Try.prog 6 #[.slice A0 l0.length c0, .slice A1 l1.length c1] w fun e w' => e = .returned (.bool r) ∧ Below w.heap.size w w' := by
  have hu50 := Try.underlying50
  have HR0 := Aside0.mk hr0
  have HC0 := Aside0.mk hc0
  clear hr0 hc0
  have HR1 := Aside0.mk hr1
  have HC1 := Aside0.mk hc1
  clear hr1 hc1
  have HB := Aside0.mk (Below.refl w.heap.size w)
  have H : ((laws_zzFits4.f k l0).bind fun t160 => (if t160 = true then (laws_FnMovesEnds.j0 k l0 l1 (decide ((l1.length : Int) > 2147483647))) else (laws_FnMovesEnds.j0 k l0 l1 true))) = some r := h
  clear h
  have HC3 := Aside0.mk H
  clear H
  go_enter Try.func6, Try.ntmps6
  go_upto_region 1 with (fail)
  repeat (go_quiet (fail); go_upto_region 1 with (fail))
  go_cut [14] (fun v14 wc => ∃ (kq : Nat) (x14_2 : Bool), v14 = .bool x14_2 ∧ Aside0 (laws_FnMovesEnds.j0 kq l0 l1 x14_2 = some r) ∧ Aside0 (kq ≤ k) ∧ Aside0 (Below w.heap.size w wc))
  case first =>
    have H := HC3.out
    clear HC3
    replace H := Option.bind_eq_some_iff.mp H
    obtain ⟨t160, A40, H⟩ := H
    replace H : (if t160 = true then (laws_FnMovesEnds.j0 k l0 l1 (decide ((l1.length : Int) > 2147483647))) else (laws_FnMovesEnds.j0 k l0 l1 true)) = some r := H
    have A4 := Aside0.mk A40
    clear A40
    by_cases c5 : t160 = true
    · subst c5
      have H1 : (laws_FnMovesEnds.j0 k l0 l1 (decide ((l1.length : Int) > 2147483647))) = some r := by rw [if_pos rfl] at H; exact H
      clear H
      have H := H1
      clear H1
      have H' := Aside0.mk H
      clear H
      go_wp2_with (first | (go_at_call 13; (with_reducible refine (laws_zzFits4.calls k _ _ l0 true _ ?side1 ?side2 A4.out).mono ?_); (case side1 => repeat (first | exact (Kd.C_below HR0.out HB.out) | (with_reducible refine Kd.C_alloc ?_ _) | (with_reducible refine Kd.C_drewN ?_ _) | (with_reducible refine Kd.C_drew ?_))); (case side2 => exact HC0.out); rintro e w' ⟨rfl, ⟨nd, rfl⟩⟩; (try first | exact ⟨rfl, _, World.drewN_drewN _ _ _⟩ | exact ⟨rfl, _, Eq.trans (World.drewN_drewN _ _ _) (congrArg (World.drewN _) (Nat.add_assoc _ _ _))⟩)))
      repeat (go_quiet (first | (go_at_call 13; (with_reducible refine (laws_zzFits4.calls k _ _ l0 true _ ?side1 ?side2 A4.out).mono ?_); (case side1 => repeat (first | exact (Kd.C_below HR0.out HB.out) | (with_reducible refine Kd.C_alloc ?_ _) | (with_reducible refine Kd.C_drewN ?_ _) | (with_reducible refine Kd.C_drew ?_))); (case side2 => exact HC0.out); rintro e w' ⟨rfl, ⟨nd, rfl⟩⟩; (try first | exact ⟨rfl, _, World.drewN_drewN _ _ _⟩ | exact ⟨rfl, _, Eq.trans (World.drewN_drewN _ _ _) (congrArg (World.drewN _) (Nat.add_assoc _ _ _))⟩))); try go_wp2_with (first | (go_at_call 13; (with_reducible refine (laws_zzFits4.calls k _ _ l0 true _ ?side1 ?side2 A4.out).mono ?_); (case side1 => repeat (first | exact (Kd.C_below HR0.out HB.out) | (with_reducible refine Kd.C_alloc ?_ _) | (with_reducible refine Kd.C_drewN ?_ _) | (with_reducible refine Kd.C_drew ?_))); (case side2 => exact HC0.out); rintro e w' ⟨rfl, ⟨nd, rfl⟩⟩; (try first | exact ⟨rfl, _, World.drewN_drewN _ _ _⟩ | exact ⟨rfl, _, Eq.trans (World.drewN_drewN _ _ _) (congrArg (World.drewN _) (Nat.add_assoc _ _ _))⟩))))
      go_meet
      case rel => exact ⟨_, (decide ((l1.length : Int) > 2147483647)), (by first | rfl | (simp; done) | (simp [*]; done)), H', ⟨by first | omega | exact Nat.le_refl _⟩, ⟨by repeat (first | (with_reducible first | exact HB.out | apply below_alloc | apply pw_below_drewN | apply below_drew1) | exact HB.out)⟩⟩
    · replace c5 := Bool.eq_false_iff.mpr c5
      subst c5
      have H1 : (laws_FnMovesEnds.j0 k l0 l1 true) = some r := by rw [if_neg (show ¬ (false = true) by decide)] at H; exact H
      clear H
      have H := H1
      clear H1
      have H' := Aside0.mk H
      clear H
      go_wp2_with (first | (go_at_call 13; (with_reducible refine (laws_zzFits4.calls k _ _ l0 false _ ?side1 ?side2 A4.out).mono ?_); (case side1 => repeat (first | exact (Kd.C_below HR0.out HB.out) | (with_reducible refine Kd.C_alloc ?_ _) | (with_reducible refine Kd.C_drewN ?_ _) | (with_reducible refine Kd.C_drew ?_))); (case side2 => exact HC0.out); rintro e w' ⟨rfl, ⟨nd, rfl⟩⟩; (try first | exact ⟨rfl, _, World.drewN_drewN _ _ _⟩ | exact ⟨rfl, _, Eq.trans (World.drewN_drewN _ _ _) (congrArg (World.drewN _) (Nat.add_assoc _ _ _))⟩)))
      repeat (go_quiet (first | (go_at_call 13; (with_reducible refine (laws_zzFits4.calls k _ _ l0 false _ ?side1 ?side2 A4.out).mono ?_); (case side1 => repeat (first | exact (Kd.C_below HR0.out HB.out) | (with_reducible refine Kd.C_alloc ?_ _) | (with_reducible refine Kd.C_drewN ?_ _) | (with_reducible refine Kd.C_drew ?_))); (case side2 => exact HC0.out); rintro e w' ⟨rfl, ⟨nd, rfl⟩⟩; (try first | exact ⟨rfl, _, World.drewN_drewN _ _ _⟩ | exact ⟨rfl, _, Eq.trans (World.drewN_drewN _ _ _) (congrArg (World.drewN _) (Nat.add_assoc _ _ _))⟩))); try go_wp2_with (first | (go_at_call 13; (with_reducible refine (laws_zzFits4.calls k _ _ l0 false _ ?side1 ?side2 A4.out).mono ?_); (case side1 => repeat (first | exact (Kd.C_below HR0.out HB.out) | (with_reducible refine Kd.C_alloc ?_ _) | (with_reducible refine Kd.C_drewN ?_ _) | (with_reducible refine Kd.C_drew ?_))); (case side2 => exact HC0.out); rintro e w' ⟨rfl, ⟨nd, rfl⟩⟩; (try first | exact ⟨rfl, _, World.drewN_drewN _ _ _⟩ | exact ⟨rfl, _, Eq.trans (World.drewN_drewN _ _ _) (congrArg (World.drewN _) (Nat.add_assoc _ _ _))⟩))))
      go_meet
      case rel => exact ⟨_, (true), (by first | rfl | (simp; done) | (simp [*]; done)), H', ⟨by first | omega | exact Nat.le_refl _⟩, ⟨by repeat (first | (with_reducible first | exact HB.out | apply below_alloc | apply pw_below_drewN | apply below_drew1) | exact HB.out)⟩⟩
  case rest =>
    clear HC3
    try clear c1
    try clear p2
    try clear c5
    obtain ⟨kq, x14_2, rfl, HA, HJ2, HB⟩ := hcut
    cases kq with
    | zero => exact absurd HA.out (by simp [laws_FnMovesEnds.j0])
    | succ kj2 =>
      have H := HA.out
      clear HA
      simp only [laws_FnMovesEnds.j0] at H
      by_cases c6 : x14_2 = true
      · subst c6
        have H1 : (some true) = some r := by rw [if_pos rfl] at H; exact H
        clear H
        have H := H1
        clear H1
        obtain rfl := Option.some.inj H
        go_wp2
        repeat (go_quiet (fail); try go_wp2)
        go_ret
        exact ⟨by first | rfl | (simp [errW_none, errW_some] <;> rfl) | (simp [*, errW_none, errW_some] <;> rfl), by repeat (first | (with_reducible first | exact HB.out | apply below_alloc | apply pw_below_drewN | apply below_drew1) | exact HB.out)⟩
      · replace c6 := Bool.eq_false_iff.mpr c6
        subst c6
        have H1 : (if (l0.length : Int) = 0 then (laws_FnMovesEnds.j1 kj2 l0 l1 true) else (if (l0.length : Int) > 50 then (laws_FnMovesEnds.j1 kj2 l0 l1 true) else (if (l1.length : Int) > 100 then (laws_FnMovesEnds.j1 kj2 l0 l1 true) else ((laws_texts.f kj2 l0 5000).bind fun t161 => (if t161 = true then ((spec_MovesRight.f kj2 l1).bind fun t162 => (laws_FnMovesEnds.j1 kj2 l0 l1 (!t162))) else (laws_FnMovesEnds.j1 kj2 l0 l1 true)))))) = some r := by rw [if_neg (show ¬ (false = true) by decide)] at H; exact H
        clear H
        have H := H1
        clear H1
        have HC7 := Aside0.mk H
        clear H
        go_upto_region 3 with (fail)
        repeat (go_quiet (fail); go_upto_region 3 with (fail))
        go_cut [37] (fun v37 wc => ∃ (kq : Nat) (x37_6 : Bool), v37 = .bool x37_6 ∧ Aside0 (laws_FnMovesEnds.j1 kq l0 l1 x37_6 = some r) ∧ Aside0 (kq ≤ kj2) ∧ Aside0 (Below w.heap.size w wc))
        case first =>
          have H := HC7.out
          clear HC7
          by_cases c8 : (l0.length : Int) = 0
          · rw [if_pos c8] at H
            have c8b0 : ((l0.length : Int) == 0) = true := beq_iff_eq.mpr c8
            have c8b1 : ((l0.length : Int) != 0) = false := bne_eq_false_iff_eq.mpr c8
            clear c8
            (first | rw [c8b0] | (simp only [i64_w, i32_w]; rw [c8b0]) | skip)
            have H' := Aside0.mk H
            clear H
            go_wp2
            repeat (go_quiet (fail); try go_wp2)
            go_meet
            case rel => exact ⟨_, (true), (by first | rfl | (simp; done) | (simp [*]; done)), H', ⟨by have := HJ2.out; first | omega | exact Nat.le_refl _⟩, ⟨by repeat (first | (with_reducible first | exact HB.out | apply below_alloc | apply pw_below_drewN | apply below_drew1) | exact HB.out)⟩⟩
          · rw [if_neg c8] at H
            have c8b0 : ((l0.length : Int) == 0) = false := beq_eq_false_iff_ne.mpr c8
            have c8b1 : ((l0.length : Int) != 0) = true := bne_iff_ne.mpr c8
            have c8b2 : ¬ (l0 = []) := fun h_ => c8 (by rw [h_]; rfl)
            (first | rw [c8b0] | (simp only [i64_w, i32_w]; rw [c8b0]) | skip)
            by_cases c9 : (l0.length : Int) > 50
            · rw [if_pos c9] at H
              have c9b0 : decide (50 < (l0.length : Int)) = true := decide_eq_true c9
              have c9b1 : decide (50 < l0.length) = true := decide_eq_true (by omega)
              clear c9
              have H' := Aside0.mk H
              clear H
              go_wp2
              repeat (go_quiet (fail); try go_wp2)
              go_meet
              case rel => exact ⟨_, (true), (by first | rfl | (simp; done) | (simp [*]; done)), H', ⟨by have := HJ2.out; first | omega | exact Nat.le_refl _⟩, ⟨by repeat (first | (with_reducible first | exact HB.out | apply below_alloc | apply pw_below_drewN | apply below_drew1) | exact HB.out)⟩⟩
            · rw [if_neg c9] at H
              have c9b0 : decide (50 < (l0.length : Int)) = false := decide_eq_false c9
              have c9b1 : decide (50 < l0.length) = false := decide_eq_false (by omega)
              clear c9
              by_cases c10 : (l1.length : Int) > 100
              · rw [if_pos c10] at H
                have c10b0 : decide (100 < (l1.length : Int)) = true := decide_eq_true c10
                have c10b1 : decide (100 < l1.length) = true := decide_eq_true (by omega)
                clear c10
                have H' := Aside0.mk H
                clear H
                go_wp2
                repeat (go_quiet (fail); try go_wp2)
                go_meet
                case rel => exact ⟨_, (true), (by first | rfl | (simp; done) | (simp [*]; done)), H', ⟨by have := HJ2.out; first | omega | exact Nat.le_refl _⟩, ⟨by repeat (first | (with_reducible first | exact HB.out | apply below_alloc | apply pw_below_drewN | apply below_drew1) | exact HB.out)⟩⟩
              · rw [if_neg c10] at H
                have c10b0 : decide (100 < (l1.length : Int)) = false := decide_eq_false c10
                have c10b1 : decide (100 < l1.length) = false := decide_eq_false (by omega)
                clear c10
                replace H := Option.bind_eq_some_iff.mp H
                obtain ⟨t161, A110, H⟩ := H
                replace H : (if t161 = true then ((spec_MovesRight.f kj2 l1).bind fun t162 => (laws_FnMovesEnds.j1 kj2 l0 l1 (!t162))) else (laws_FnMovesEnds.j1 kj2 l0 l1 true)) = some r := H
                have A11 := Aside0.mk A110
                clear A110
                by_cases c12 : t161 = true
                · subst c12
                  have H1 : ((spec_MovesRight.f kj2 l1).bind fun t162 => (laws_FnMovesEnds.j1 kj2 l0 l1 (!t162))) = some r := by rw [if_pos rfl] at H; exact H
                  clear H
                  have H := H1
                  clear H1
                  replace H := Option.bind_eq_some_iff.mp H
                  obtain ⟨t162, A130, H⟩ := H
                  replace H : (laws_FnMovesEnds.j1 kj2 l0 l1 (!t162)) = some r := H
                  have A13 := Aside0.mk A130
                  clear A130
                  have H' := Aside0.mk H
                  clear H
                  go_wp2_with (first | (go_at_call 14; (with_reducible refine (laws_texts.calls kj2 _ _ l0 5000 true _ ?side1 ?side2 A11.out).mono ?_); (case side1 => repeat (first | exact (Kd.C_below HR0.out HB.out) | (with_reducible refine Kd.C_alloc ?_ _) | (with_reducible refine Kd.C_drewN ?_ _) | (with_reducible refine Kd.C_drew ?_))); (case side2 => exact HC0.out); rintro e w' ⟨rfl, ⟨nd, rfl⟩⟩; (try first | exact ⟨rfl, _, World.drewN_drewN _ _ _⟩ | exact ⟨rfl, _, Eq.trans (World.drewN_drewN _ _ _) (congrArg (World.drewN _) (Nat.add_assoc _ _ _))⟩)) | (go_at_call 15; (with_reducible refine (spec_MovesRight.calls kj2 _ _ l1 t162 _ ?side1 ?side2 A13.out).mono ?_); (case side1 => repeat (first | exact (Kd.C_below HR1.out (by repeat (first | (with_reducible first | exact HB.out | apply below_alloc | apply pw_below_drewN | apply below_drew1) | exact HB.out))) | (with_reducible refine Kd.C_alloc ?_ _) | (with_reducible refine Kd.C_drewN ?_ _) | (with_reducible refine Kd.C_drew ?_))); (case side2 => exact HC1.out); rintro e w' ⟨rfl, ⟨nd, rfl⟩⟩; (try first | exact ⟨rfl, _, World.drewN_drewN _ _ _⟩ | exact ⟨rfl, _, Eq.trans (World.drewN_drewN _ _ _) (congrArg (World.drewN _) (Nat.add_assoc _ _ _))⟩)))
                  repeat (go_quiet (first | (go_at_call 14; (with_reducible refine (laws_texts.calls kj2 _ _ l0 5000 true _ ?side1 ?side2 A11.out).mono ?_); (case side1 => repeat (first | exact (Kd.C_below HR0.out HB.out) | (with_reducible refine Kd.C_alloc ?_ _) | (with_reducible refine Kd.C_drewN ?_ _) | (with_reducible refine Kd.C_drew ?_))); (case side2 => exact HC0.out); rintro e w' ⟨rfl, ⟨nd, rfl⟩⟩; (try first | exact ⟨rfl, _, World.drewN_drewN _ _ _⟩ | exact ⟨rfl, _, Eq.trans (World.drewN_drewN _ _ _) (congrArg (World.drewN _) (Nat.add_assoc _ _ _))⟩)) | (go_at_call 15; (with_reducible refine (spec_MovesRight.calls kj2 _ _ l1 t162 _ ?side1 ?side2 A13.out).mono ?_); (case side1 => repeat (first | exact (Kd.C_below HR1.out (by repeat (first | (with_reducible first | exact HB.out | apply below_alloc | apply pw_below_drewN | apply below_drew1) | exact HB.out))) | (with_reducible refine Kd.C_alloc ?_ _) | (with_reducible refine Kd.C_drewN ?_ _) | (with_reducible refine Kd.C_drew ?_))); (case side2 => exact HC1.out); rintro e w' ⟨rfl, ⟨nd, rfl⟩⟩; (try first | exact ⟨rfl, _, World.drewN_drewN _ _ _⟩ | exact ⟨rfl, _, Eq.trans (World.drewN_drewN _ _ _) (congrArg (World.drewN _) (Nat.add_assoc _ _ _))⟩))); try go_wp2_with (first | (go_at_call 14; (with_reducible refine (laws_texts.calls kj2 _ _ l0 5000 true _ ?side1 ?side2 A11.out).mono ?_); (case side1 => repeat (first | exact (Kd.C_below HR0.out HB.out) | (with_reducible refine Kd.C_alloc ?_ _) | (with_reducible refine Kd.C_drewN ?_ _) | (with_reducible refine Kd.C_drew ?_))); (case side2 => exact HC0.out); rintro e w' ⟨rfl, ⟨nd, rfl⟩⟩; (try first | exact ⟨rfl, _, World.drewN_drewN _ _ _⟩ | exact ⟨rfl, _, Eq.trans (World.drewN_drewN _ _ _) (congrArg (World.drewN _) (Nat.add_assoc _ _ _))⟩)) | (go_at_call 15; (with_reducible refine (spec_MovesRight.calls kj2 _ _ l1 t162 _ ?side1 ?side2 A13.out).mono ?_); (case side1 => repeat (first | exact (Kd.C_below HR1.out (by repeat (first | (with_reducible first | exact HB.out | apply below_alloc | apply pw_below_drewN | apply below_drew1) | exact HB.out))) | (with_reducible refine Kd.C_alloc ?_ _) | (with_reducible refine Kd.C_drewN ?_ _) | (with_reducible refine Kd.C_drew ?_))); (case side2 => exact HC1.out); rintro e w' ⟨rfl, ⟨nd, rfl⟩⟩; (try first | exact ⟨rfl, _, World.drewN_drewN _ _ _⟩ | exact ⟨rfl, _, Eq.trans (World.drewN_drewN _ _ _) (congrArg (World.drewN _) (Nat.add_assoc _ _ _))⟩))))
                  go_meet
                  case rel => exact ⟨_, (!t162), (by first | rfl | (simp; done) | (simp [*]; done)), H', ⟨by have := HJ2.out; first | omega | exact Nat.le_refl _⟩, ⟨by repeat (first | (with_reducible first | exact HB.out | apply below_alloc | apply pw_below_drewN | apply below_drew1) | exact HB.out)⟩⟩
                · replace c12 := Bool.eq_false_iff.mpr c12
                  subst c12
                  have H1 : (laws_FnMovesEnds.j1 kj2 l0 l1 true) = some r := by rw [if_neg (show ¬ (false = true) by decide)] at H; exact H
                  clear H
                  have H := H1
                  clear H1
                  have H' := Aside0.mk H
                  clear H
                  go_wp2_with (first | (go_at_call 14; (with_reducible refine (laws_texts.calls kj2 _ _ l0 5000 false _ ?side1 ?side2 A11.out).mono ?_); (case side1 => repeat (first | exact (Kd.C_below HR0.out HB.out) | (with_reducible refine Kd.C_alloc ?_ _) | (with_reducible refine Kd.C_drewN ?_ _) | (with_reducible refine Kd.C_drew ?_))); (case side2 => exact HC0.out); rintro e w' ⟨rfl, ⟨nd, rfl⟩⟩; (try first | exact ⟨rfl, _, World.drewN_drewN _ _ _⟩ | exact ⟨rfl, _, Eq.trans (World.drewN_drewN _ _ _) (congrArg (World.drewN _) (Nat.add_assoc _ _ _))⟩)))
                  repeat (go_quiet (first | (go_at_call 14; (with_reducible refine (laws_texts.calls kj2 _ _ l0 5000 false _ ?side1 ?side2 A11.out).mono ?_); (case side1 => repeat (first | exact (Kd.C_below HR0.out HB.out) | (with_reducible refine Kd.C_alloc ?_ _) | (with_reducible refine Kd.C_drewN ?_ _) | (with_reducible refine Kd.C_drew ?_))); (case side2 => exact HC0.out); rintro e w' ⟨rfl, ⟨nd, rfl⟩⟩; (try first | exact ⟨rfl, _, World.drewN_drewN _ _ _⟩ | exact ⟨rfl, _, Eq.trans (World.drewN_drewN _ _ _) (congrArg (World.drewN _) (Nat.add_assoc _ _ _))⟩))); try go_wp2_with (first | (go_at_call 14; (with_reducible refine (laws_texts.calls kj2 _ _ l0 5000 false _ ?side1 ?side2 A11.out).mono ?_); (case side1 => repeat (first | exact (Kd.C_below HR0.out HB.out) | (with_reducible refine Kd.C_alloc ?_ _) | (with_reducible refine Kd.C_drewN ?_ _) | (with_reducible refine Kd.C_drew ?_))); (case side2 => exact HC0.out); rintro e w' ⟨rfl, ⟨nd, rfl⟩⟩; (try first | exact ⟨rfl, _, World.drewN_drewN _ _ _⟩ | exact ⟨rfl, _, Eq.trans (World.drewN_drewN _ _ _) (congrArg (World.drewN _) (Nat.add_assoc _ _ _))⟩))))
                  go_meet
                  case rel => exact ⟨_, (true), (by first | rfl | (simp; done) | (simp [*]; done)), H', ⟨by have := HJ2.out; first | omega | exact Nat.le_refl _⟩, ⟨by repeat (first | (with_reducible first | exact HB.out | apply below_alloc | apply pw_below_drewN | apply below_drew1) | exact HB.out)⟩⟩
        case rest =>
          clear HC7
          try clear c1
          try clear p2
          try clear c5
          try clear c6
          try clear c8
          try clear c8b0
          try clear c8b1
          try clear c8b2
          try clear c9
          try clear c9b0
          try clear c9b1
          try clear c10
          try clear c10b0
          try clear c10b1
          try clear c12
          try clear p2
          obtain ⟨kq, x37_6, rfl, HA, HJ6, HB⟩ := hcut
          cases kq with
          | zero => exact absurd HA.out (by simp [laws_FnMovesEnds.j1])
          | succ kj6 =>
            have H := HA.out
            clear HA
            simp only [laws_FnMovesEnds.j1] at H
            by_cases c14 : x37_6 = true
            · subst c14
              have H1 : (some true) = some r := by rw [if_pos rfl] at H; exact H
              clear H
              have H := H1
              clear H1
              obtain rfl := Option.some.inj H
              go_wp2
              repeat (go_quiet (fail); try go_wp2)
              go_ret
              exact ⟨by first | rfl | (simp [errW_none, errW_some] <;> rfl) | (simp [*, errW_none, errW_some] <;> rfl), by repeat (first | (with_reducible first | exact HB.out | apply below_alloc | apply pw_below_drewN | apply below_drew1) | exact HB.out)⟩
            · replace c14 := Bool.eq_false_iff.mpr c14
              subst c14
              have H1 : ((some (([] : List (S50)) : List (S50))).bind fun y163 => (if y163.length + l1.length < 8796093022208 then ((some (y163 ++ l1 : List (S50))).bind fun y166 => ((some (([(⟨4, 0⟩ : S50), (⟨0, 0⟩ : S50), (⟨1, 0⟩ : S50), (⟨4, 0⟩ : S50)] : List (S50)) : List (S50))).bind fun y169 => (if y166.length + y169.length < 8796093022208 then ((impl_Moves.f l0 (y166 ++ y169)).bind fun t175 => (if (t175.length : Int) = (wrap64 ((l1.length : Int) + 4)) then (if 0 ≤ (l1.length : Int) then (if (l1.length : Int) < (t175.length : Int) then (if ((rd_T52 t175 (l1.length : Int)).f1) < 1 then (laws_FnMovesEnds.j2 kj6 l0 t175 (l1.length : Int) true) else (if ((rd_T52 t175 (l1.length : Int)).f1) > (l0.length : Int) then (laws_FnMovesEnds.j2 kj6 l0 t175 (l1.length : Int) true) else (if 0 ≤ (wrap64 ((l1.length : Int) + 3)) then (if (wrap64 ((l1.length : Int) + 3)) < (t175.length : Int) then (laws_FnMovesEnds.j2 kj6 l0 t175 (l1.length : Int) (decide (((rd_T52 t175 (wrap64 ((l1.length : Int) + 3))).f1) < 1))) else (none)) else (none)))) else (none)) else (none)) else (laws_FnMovesEnds.j2 kj6 l0 t175 (l1.length : Int) true))) else (none)))) else (none))) = some r := by rw [if_neg (show ¬ (false = true) by decide)] at H; exact H
              clear H
              have H := H1
              clear H1
              obtain ⟨y163, hy163⟩ : ∃ y_ : List (S50), y_ = (([] : List (S50))) := ⟨_, rfl⟩
              replace H : (if y163.length + l1.length < 8796093022208 then ((some (y163 ++ l1 : List (S50))).bind fun y166 => ((some (([(⟨4, 0⟩ : S50), (⟨0, 0⟩ : S50), (⟨1, 0⟩ : S50), (⟨4, 0⟩ : S50)] : List (S50)) : List (S50))).bind fun y169 => (if y166.length + y169.length < 8796093022208 then ((impl_Moves.f l0 (y166 ++ y169)).bind fun t175 => (if (t175.length : Int) = (wrap64 ((l1.length : Int) + 4)) then (if 0 ≤ (l1.length : Int) then (if (l1.length : Int) < (t175.length : Int) then (if ((rd_T52 t175 (l1.length : Int)).f1) < 1 then (laws_FnMovesEnds.j2 kj6 l0 t175 (l1.length : Int) true) else (if ((rd_T52 t175 (l1.length : Int)).f1) > (l0.length : Int) then (laws_FnMovesEnds.j2 kj6 l0 t175 (l1.length : Int) true) else (if 0 ≤ (wrap64 ((l1.length : Int) + 3)) then (if (wrap64 ((l1.length : Int) + 3)) < (t175.length : Int) then (laws_FnMovesEnds.j2 kj6 l0 t175 (l1.length : Int) (decide (((rd_T52 t175 (wrap64 ((l1.length : Int) + 3))).f1) < 1))) else (none)) else (none)))) else (none)) else (none)) else (laws_FnMovesEnds.j2 kj6 l0 t175 (l1.length : Int) true))) else (none)))) else (none)) = some r := by first | (rw [hy163]; with_reducible exact H) | (have H2_ := (Option.bind_some _ _).symm.trans H; rw [hy163]; with_reducible exact H2_) | (have H2_ := (Option.bind_some _ _).symm.trans H; with_reducible exact H2_) | with_reducible exact H | (rw [hy163]; exact H) | exact H
              have Ny163 := Aside0.mk hy163
              clear hy163
              by_cases c15 : y163.length + l1.length < 8796093022208
              · rw [if_pos c15] at H
                have LMc15 := Aside0.mk c15
                clear c15
                obtain ⟨y166, hy166⟩ : ∃ y_ : List (S50), y_ = (y163 ++ l1) := ⟨_, rfl⟩
                replace H : ((some (([(⟨4, 0⟩ : S50), (⟨0, 0⟩ : S50), (⟨1, 0⟩ : S50), (⟨4, 0⟩ : S50)] : List (S50)) : List (S50))).bind fun y169 => (if y166.length + y169.length < 8796093022208 then ((impl_Moves.f l0 (y166 ++ y169)).bind fun t175 => (if (t175.length : Int) = (wrap64 ((l1.length : Int) + 4)) then (if 0 ≤ (l1.length : Int) then (if (l1.length : Int) < (t175.length : Int) then (if ((rd_T52 t175 (l1.length : Int)).f1) < 1 then (laws_FnMovesEnds.j2 kj6 l0 t175 (l1.length : Int) true) else (if ((rd_T52 t175 (l1.length : Int)).f1) > (l0.length : Int) then (laws_FnMovesEnds.j2 kj6 l0 t175 (l1.length : Int) true) else (if 0 ≤ (wrap64 ((l1.length : Int) + 3)) then (if (wrap64 ((l1.length : Int) + 3)) < (t175.length : Int) then (laws_FnMovesEnds.j2 kj6 l0 t175 (l1.length : Int) (decide (((rd_T52 t175 (wrap64 ((l1.length : Int) + 3))).f1) < 1))) else (none)) else (none)))) else (none)) else (none)) else (laws_FnMovesEnds.j2 kj6 l0 t175 (l1.length : Int) true))) else (none))) = some r := by first | (rw [hy166]; with_reducible exact H) | (have H2_ := (Option.bind_some _ _).symm.trans H; rw [hy166]; with_reducible exact H2_) | (have H2_ := (Option.bind_some _ _).symm.trans H; with_reducible exact H2_) | with_reducible exact H | (rw [hy166]; exact H) | exact H
                have Ny166 := Aside0.mk hy166
                clear hy166
                obtain ⟨y169, hy169⟩ : ∃ y_ : List (S50), y_ = (([(⟨4, 0⟩ : S50), (⟨0, 0⟩ : S50), (⟨1, 0⟩ : S50), (⟨4, 0⟩ : S50)] : List (S50))) := ⟨_, rfl⟩
                replace H : (if y166.length + y169.length < 8796093022208 then ((impl_Moves.f l0 (y166 ++ y169)).bind fun t175 => (if (t175.length : Int) = (wrap64 ((l1.length : Int) + 4)) then (if 0 ≤ (l1.length : Int) then (if (l1.length : Int) < (t175.length : Int) then (if ((rd_T52 t175 (l1.length : Int)).f1) < 1 then (laws_FnMovesEnds.j2 kj6 l0 t175 (l1.length : Int) true) else (if ((rd_T52 t175 (l1.length : Int)).f1) > (l0.length : Int) then (laws_FnMovesEnds.j2 kj6 l0 t175 (l1.length : Int) true) else (if 0 ≤ (wrap64 ((l1.length : Int) + 3)) then (if (wrap64 ((l1.length : Int) + 3)) < (t175.length : Int) then (laws_FnMovesEnds.j2 kj6 l0 t175 (l1.length : Int) (decide (((rd_T52 t175 (wrap64 ((l1.length : Int) + 3))).f1) < 1))) else (none)) else (none)))) else (none)) else (none)) else (laws_FnMovesEnds.j2 kj6 l0 t175 (l1.length : Int) true))) else (none)) = some r := by first | (rw [hy169]; with_reducible exact H) | (have H2_ := (Option.bind_some _ _).symm.trans H; rw [hy169]; with_reducible exact H2_) | (have H2_ := (Option.bind_some _ _).symm.trans H; with_reducible exact H2_) | with_reducible exact H | (rw [hy169]; exact H) | exact H
                have Ny169 := Aside0.mk hy169
                clear hy169
                by_cases c16 : y166.length + y169.length < 8796093022208
                · rw [if_pos c16] at H
                  have LMc16 := Aside0.mk c16
                  clear c16
                  obtain ⟨y172, hy172⟩ : ∃ y_ : List (S50), y_ = (y166 ++ y169) := ⟨_, rfl⟩
                  replace H : ((impl_Moves.f l0 y172).bind fun t175 => (if (t175.length : Int) = (wrap64 ((l1.length : Int) + 4)) then (if 0 ≤ (l1.length : Int) then (if (l1.length : Int) < (t175.length : Int) then (if ((rd_T52 t175 (l1.length : Int)).f1) < 1 then (laws_FnMovesEnds.j2 kj6 l0 t175 (l1.length : Int) true) else (if ((rd_T52 t175 (l1.length : Int)).f1) > (l0.length : Int) then (laws_FnMovesEnds.j2 kj6 l0 t175 (l1.length : Int) true) else (if 0 ≤ (wrap64 ((l1.length : Int) + 3)) then (if (wrap64 ((l1.length : Int) + 3)) < (t175.length : Int) then (laws_FnMovesEnds.j2 kj6 l0 t175 (l1.length : Int) (decide (((rd_T52 t175 (wrap64 ((l1.length : Int) + 3))).f1) < 1))) else (none)) else (none)))) else (none)) else (none)) else (laws_FnMovesEnds.j2 kj6 l0 t175 (l1.length : Int) true))) = some r := by first | (rw [hy172]; with_reducible exact H) | (have H2_ := (Option.bind_some _ _).symm.trans H; rw [hy172]; with_reducible exact H2_) | (have H2_ := (Option.bind_some _ _).symm.trans H; with_reducible exact H2_) | with_reducible exact H | (rw [hy172]; exact H) | exact H
                  have Ny172 := Aside0.mk hy172
                  clear hy172
                  replace H := Option.bind_eq_some_iff.mp H
                  obtain ⟨t175, A170, H⟩ := H
                  replace H : (if (t175.length : Int) = (wrap64 ((l1.length : Int) + 4)) then (if 0 ≤ (l1.length : Int) then (if (l1.length : Int) < (t175.length : Int) then (if ((rd_T52 t175 (l1.length : Int)).f1) < 1 then (laws_FnMovesEnds.j2 kj6 l0 t175 (l1.length : Int) true) else (if ((rd_T52 t175 (l1.length : Int)).f1) > (l0.length : Int) then (laws_FnMovesEnds.j2 kj6 l0 t175 (l1.length : Int) true) else (if 0 ≤ (wrap64 ((l1.length : Int) + 3)) then (if (wrap64 ((l1.length : Int) + 3)) < (t175.length : Int) then (laws_FnMovesEnds.j2 kj6 l0 t175 (l1.length : Int) (decide (((rd_T52 t175 (wrap64 ((l1.length : Int) + 3))).f1) < 1))) else (none)) else (none)))) else (none)) else (none)) else (laws_FnMovesEnds.j2 kj6 l0 t175 (l1.length : Int) true)) = some r := H
                  have A17 := Aside0.mk A170
                  clear A170
                  have HC18 := Aside0.mk H
                  clear H
                  go_upto_region 7 with (first | ((with_reducible refine gate_dst (N := 39) rfl ?_); (try (refine gate_guard (by rfl) ?_; dsimp only)); refine Kd.R_lit k50 _ 50 ?hg (N := 39) ?hd (xs := ([] : List (S50))) (inner := []) (ok := fun _ => True) (okp := fun _ => True) ?hr ?hp (fun _ hk => hk) trivial (Below.refl _ _) (Nat.le_refl _) (by simp) ?_; (case hd => rfl); (case hg => rfl); (case hr => first | (go_simp; done) | (go_simp; rfl)); (case hp => exact (Reps.none _ _)); intro v164 w19 ho20 hb hg_ hnew_; clear hg_ hnew_; (first | rw [← Ny163.out] at ho20 | (simp only [Int.reduceToNat] at ho20; rw [← Ny163.out] at ho20)); have n0_ := Aside0.mk (Kd.R_lower ho20 (below_size (by repeat (first | (with_reducible first | exact HB.out | apply below_alloc | apply pw_below_drewN | apply below_drew1) | exact HB.out)))); have n1_ := Aside0.mk (below_step (by repeat (first | (with_reducible first | exact HB.out | apply below_alloc | apply pw_below_drewN | apply below_drew1) | exact HB.out)) hb); clear HB; have HO165 := n0_; have HB := n1_; clear n0_ n1_; clear hb ho20) | ((with_reducible refine gate_builtin (b := .append) (xs := #[.tmp 39, .tmp 40]) rfl ?_); (try (refine gate_guard (by rfl) ?_; dsimp only)); at_builtin; refine Kd.R_append_rows k50 (w0 := w) w.heap.size rfl (.tmp 39) (.tmp 40) 41 50 (.agg #[(.int .i64 0), (.int .i64 0)]) 16 rfl Try.underlying41 info50 rfl (by decide) (by omega) v164 y163 l1 _ _ _ (fun _ => True) (fun _ => False) rfl rfl ?aO ?aR (fun _ _ h => h) (fun _ h => h.elim) ?aF ?aB ?aS ?aL ?_; (case aR => repeat (first | exact (Kd.C_below HR1.out HB.out) | (with_reducible refine Kd.C_alloc ?_ _) | (with_reducible refine Kd.C_drewN ?_ _) | (with_reducible refine Kd.C_drew ?_))); (case aB => exact (by repeat (first | (with_reducible first | exact HB.out | apply below_alloc | apply pw_below_drewN | apply below_drew1) | exact HB.out))); (case aF => exact (fun _ _ => trivial)); (case aO => exact (by (with_reducible repeat (first | apply Kd.R_alloc | apply Kd.R_drewN | apply Kd.R_drew)); exact HO165.out)); (case aS => exact (below_size (by repeat (first | (with_reducible first | exact HB.out | apply below_alloc | apply pw_below_drewN | apply below_drew1) | exact HB.out)))); (case aL => have := LMc15.out; omega); intro v167 w21 ho hb hg hat; rw [← Ny166.out] at ho; have n0_ := Aside0.mk (hb); have n1_ := Aside0.mk (ho); clear HB; clear HO165; have HB := n0_; have HO168 := n1_; clear n0_ n1_; clear ho hb hg hat) | ((with_reducible refine gate_dst (N := 46) rfl ?_); (try (refine gate_guard (by rfl) ?_; dsimp only)); refine Kd.R_lit k50 _ 50 ?hg (N := 46) ?hd (xs := ([(⟨4, 0⟩ : S50), (⟨0, 0⟩ : S50), (⟨1, 0⟩ : S50), (⟨4, 0⟩ : S50)] : List (S50))) (inner := [.int .i64 4, .int .i64 0, .int .i64 0, .int .i64 0, .int .i64 1, .int .i64 0, .int .i64 4, .int .i64 0]) (ok := fun _ => True) (okp := fun _ => True) ?hr ?hp (fun _ hk => hk) trivial (Below.refl _ _) (Nat.le_refl _) (by simp) ?_; (case hd => rfl); (case hg => rfl); (case hr => first | (go_simp; done) | (go_simp; rfl)); (case hp => exact (Reps.c2 (show Kd.M k50 _ _ _ (⟨4, 0⟩ : S50) [.int .i64 4, .int .i64 0] from (k50_mkM _ _ _ (⟨4, 0⟩ : S50) )) (Reps.c2 (show Kd.M k50 _ _ _ (⟨0, 0⟩ : S50) [.int .i64 0, .int .i64 0] from (k50_mkM _ _ _ (⟨0, 0⟩ : S50) )) (Reps.c2 (show Kd.M k50 _ _ _ (⟨1, 0⟩ : S50) [.int .i64 1, .int .i64 0] from (k50_mkM _ _ _ (⟨1, 0⟩ : S50) )) (Reps.c2 (show Kd.M k50 _ _ _ (⟨4, 0⟩ : S50) [.int .i64 4, .int .i64 0] from (k50_mkM _ _ _ (⟨4, 0⟩ : S50) )) (Reps.none _ _)))))); intro v170 w22 ho23 hb hg_ hnew_; clear hg_ hnew_; (first | rw [← Ny169.out] at ho23 | (simp only [Int.reduceToNat] at ho23; rw [← Ny169.out] at ho23)); have n0_ := Aside0.mk (Kd.R_elder' (by (with_reducible repeat (first | apply Kd.R_alloc | apply Kd.R_drewN | apply Kd.R_drew)); exact HO168.out) (Kd.R_base ho23) hb); have n1_ := Aside0.mk (Kd.R_lower (Kd.R_new' ho23 (Kd.R_lt (by (with_reducible repeat (first | apply Kd.R_alloc | apply Kd.R_drewN | apply Kd.R_drew)); exact HO168.out))) (below_size (by repeat (first | (with_reducible first | exact HB.out | apply below_alloc | apply pw_below_drewN | apply below_drew1) | exact HB.out)))); have n2_ := Aside0.mk (below_step (by repeat (first | (with_reducible first | exact HB.out | apply below_alloc | apply pw_below_drewN | apply below_drew1) | exact HB.out)) hb); clear HO168; clear HB; have HO168 := n0_; have HO171 := n1_; have HB := n2_; clear n0_ n1_ n2_; clear hb ho23; obtain ⟨Ao25, co25, eo25⟩ := Kd.R_slice HO171.out; subst eo25) | ((with_reducible refine gate_builtin (b := .append) (xs := #[.tmp 41, .tmp 46]) rfl ?_); (try (refine gate_guard (by rfl) ?_; dsimp only)); at_builtin; refine Kd.R_append_rows k50 (w0 := w) w.heap.size rfl (.tmp 41) (.tmp 46) 41 50 (.agg #[(.int .i64 0), (.int .i64 0)]) 16 rfl Try.underlying41 info50 rfl (by decide) (by omega) v167 y166 y169 _ _ _ (fun k_ => some k_ ≠ (.slice Ao25 y169.length co25 : Value).ownBlock) (fun _ => False) rfl rfl ?aO ?aR (fun _ _ h => h) (fun _ h => h.elim) ?aF ?aB ?aS ?aL ?_; (case aR => repeat (first | exact (Kd.R_reads' HO171.out).2.2 | (with_reducible refine Kd.C_alloc ?_ _) | (with_reducible refine Kd.C_drewN ?_ _) | (with_reducible refine Kd.C_drew ?_))); (case aB => exact (by repeat (first | (with_reducible first | exact HB.out | apply below_alloc | apply pw_below_drewN | apply below_drew1) | exact HB.out))); (case aF => exact (fun k_ hk => Kd.fresh' (Kd.R_lt (by (with_reducible repeat (first | apply Kd.R_alloc | apply Kd.R_drewN | apply Kd.R_drew)); exact HO171.out)) k_ hk)); (case aO => exact (by (with_reducible repeat (first | apply Kd.R_alloc | apply Kd.R_drewN | apply Kd.R_drew)); exact Kd.R_mono HO168.out (fun _ hk => hk.2))); (case aS => exact (below_size (by repeat (first | (with_reducible first | exact HB.out | apply below_alloc | apply pw_below_drewN | apply below_drew1) | exact HB.out)))); (case aL => have := LMc16.out; omega); intro v173 w24 ho hb hg hat; rw [← Ny172.out] at ho; have n0_ := Aside0.mk (Kd.R_after (ok := (fun _ => True)) (by (with_reducible repeat (first | apply Kd.R_alloc | apply Kd.R_drewN | apply Kd.R_drew)); exact HO171.out) hg hat); have n1_ := Aside0.mk (hb); have n2_ := Aside0.mk (ho); clear HO171; clear HB; clear HO168; have HO171 := n0_; have HB := n1_; have HO174 := n2_; clear n0_ n1_ n2_; clear ho hb hg hat; obtain ⟨Ao26, co26, eo26⟩ := Kd.R_slice HO174.out; subst eo26) | (go_at_call 17; (with_reducible refine (impl_Moves.calls _ _ l0 _ _ y172 t175 _ ?side1 ?side2 ?side3 ?side4 A17.out).mono ?_); (case side1 => repeat (first | exact (Kd.C_below HR0.out HB.out) | (with_reducible refine Kd.C_alloc ?_ _) | (with_reducible refine Kd.C_drewN ?_ _) | (with_reducible refine Kd.C_drew ?_))); (case side2 => exact HC0.out); (case side3 => repeat (first | exact (Kd.R_reads' HO174.out).2.2 | (with_reducible refine Kd.C_alloc ?_ _) | (with_reducible refine Kd.C_drewN ?_ _) | (with_reducible refine Kd.C_drew ?_))); (case side4 => exact (Kd.R_reads' HO174.out).2.1); rintro e w27 ⟨v176, rfl, ho0, hb⟩; have n0_ := Aside0.mk (Kd.R_below (by (with_reducible repeat (first | apply Kd.R_alloc | apply Kd.R_drewN | apply Kd.R_drew)); exact HO171.out) hb); have n1_ := Aside0.mk (Kd.R_below (by (with_reducible repeat (first | apply Kd.R_alloc | apply Kd.R_drewN | apply Kd.R_drew)); exact HO174.out) hb); have n2_ := Aside0.mk (Kd.R_lower ho0 (below_size (by repeat (first | (with_reducible first | exact HB.out | apply below_alloc | apply pw_below_drewN | apply below_drew1) | exact HB.out)))); have n3_ := Aside0.mk (below_step (by repeat (first | (with_reducible first | exact HB.out | apply below_alloc | apply pw_below_drewN | apply below_drew1) | exact HB.out)) hb); clear HO171; clear HO174; clear HB; have HO171 := n0_; have HO174 := n1_; have HO177 := n2_; have HB := n3_; clear n0_ n1_ n2_ n3_; (try clear hb); (try clear hb2); (try clear hk); (try clear hi); (try clear ho0)))
                  repeat (go_quiet (first | ((with_reducible refine gate_dst (N := 39) rfl ?_); (try (refine gate_guard (by rfl) ?_; dsimp only)); refine Kd.R_lit k50 _ 50 ?hg (N := 39) ?hd (xs := ([] : List (S50))) (inner := []) (ok := fun _ => True) (okp := fun _ => True) ?hr ?hp (fun _ hk => hk) trivial (Below.refl _ _) (Nat.le_refl _) (by simp) ?_; (case hd => rfl); (case hg => rfl); (case hr => first | (go_simp; done) | (go_simp; rfl)); (case hp => exact (Reps.none _ _)); intro v164 w19 ho20 hb hg_ hnew_; clear hg_ hnew_; (first | rw [← Ny163.out] at ho20 | (simp only [Int.reduceToNat] at ho20; rw [← Ny163.out] at ho20)); have n0_ := Aside0.mk (Kd.R_lower ho20 (below_size (by repeat (first | (with_reducible first | exact HB.out | apply below_alloc | apply pw_below_drewN | apply below_drew1) | exact HB.out)))); have n1_ := Aside0.mk (below_step (by repeat (first | (with_reducible first | exact HB.out | apply below_alloc | apply pw_below_drewN | apply below_drew1) | exact HB.out)) hb); clear HB; have HO165 := n0_; have HB := n1_; clear n0_ n1_; clear hb ho20) | ((with_reducible refine gate_builtin (b := .append) (xs := #[.tmp 39, .tmp 40]) rfl ?_); (try (refine gate_guard (by rfl) ?_; dsimp only)); at_builtin; refine Kd.R_append_rows k50 (w0 := w) w.heap.size rfl (.tmp 39) (.tmp 40) 41 50 (.agg #[(.int .i64 0), (.int .i64 0)]) 16 rfl Try.underlying41 info50 rfl (by decide) (by omega) v164 y163 l1 _ _ _ (fun _ => True) (fun _ => False) rfl rfl ?aO ?aR (fun _ _ h => h) (fun _ h => h.elim) ?aF ?aB ?aS ?aL ?_; (case aR => repeat (first | exact (Kd.C_below HR1.out HB.out) | (with_reducible refine Kd.C_alloc ?_ _) | (with_reducible refine Kd.C_drewN ?_ _) | (with_reducible refine Kd.C_drew ?_))); (case aB => exact (by repeat (first | (with_reducible first | exact HB.out | apply below_alloc | apply pw_below_drewN | apply below_drew1) | exact HB.out))); (case aF => exact (fun _ _ => trivial)); (case aO => exact (by (with_reducible repeat (first | apply Kd.R_alloc | apply Kd.R_drewN | apply Kd.R_drew)); exact HO165.out)); (case aS => exact (below_size (by repeat (first | (with_reducible first | exact HB.out | apply below_alloc | apply pw_below_drewN | apply below_drew1) | exact HB.out)))); (case aL => have := LMc15.out; omega); intro v167 w21 ho hb hg hat; rw [← Ny166.out] at ho; have n0_ := Aside0.mk (hb); have n1_ := Aside0.mk (ho); clear HB; clear HO165; have HB := n0_; have HO168 := n1_; clear n0_ n1_; clear ho hb hg hat) | ((with_reducible refine gate_dst (N := 46) rfl ?_); (try (refine gate_guard (by rfl) ?_; dsimp only)); refine Kd.R_lit k50 _ 50 ?hg (N := 46) ?hd (xs := ([(⟨4, 0⟩ : S50), (⟨0, 0⟩ : S50), (⟨1, 0⟩ : S50), (⟨4, 0⟩ : S50)] : List (S50))) (inner := [.int .i64 4, .int .i64 0, .int .i64 0, .int .i64 0, .int .i64 1, .int .i64 0, .int .i64 4, .int .i64 0]) (ok := fun _ => True) (okp := fun _ => True) ?hr ?hp (fun _ hk => hk) trivial (Below.refl _ _) (Nat.le_refl _) (by simp) ?_; (case hd => rfl); (case hg => rfl); (case hr => first | (go_simp; done) | (go_simp; rfl)); (case hp => exact (Reps.c2 (show Kd.M k50 _ _ _ (⟨4, 0⟩ : S50) [.int .i64 4, .int .i64 0] from (k50_mkM _ _ _ (⟨4, 0⟩ : S50) )) (Reps.c2 (show Kd.M k50 _ _ _ (⟨0, 0⟩ : S50) [.int .i64 0, .int .i64 0] from (k50_mkM _ _ _ (⟨0, 0⟩ : S50) )) (Reps.c2 (show Kd.M k50 _ _ _ (⟨1, 0⟩ : S50) [.int .i64 1, .int .i64 0] from (k50_mkM _ _ _ (⟨1, 0⟩ : S50) )) (Reps.c2 (show Kd.M k50 _ _ _ (⟨4, 0⟩ : S50) [.int .i64 4, .int .i64 0] from (k50_mkM _ _ _ (⟨4, 0⟩ : S50) )) (Reps.none _ _)))))); intro v170 w22 ho23 hb hg_ hnew_; clear hg_ hnew_; (first | rw [← Ny169.out] at ho23 | (simp only [Int.reduceToNat] at ho23; rw [← Ny169.out] at ho23)); have n0_ := Aside0.mk (Kd.R_elder' (by (with_reducible repeat (first | apply Kd.R_alloc | apply Kd.R_drewN | apply Kd.R_drew)); exact HO168.out) (Kd.R_base ho23) hb); have n1_ := Aside0.mk (Kd.R_lower (Kd.R_new' ho23 (Kd.R_lt (by (with_reducible repeat (first | apply Kd.R_alloc | apply Kd.R_drewN | apply Kd.R_drew)); exact HO168.out))) (below_size (by repeat (first | (with_reducible first | exact HB.out | apply below_alloc | apply pw_below_drewN | apply below_drew1) | exact HB.out)))); have n2_ := Aside0.mk (below_step (by repeat (first | (with_reducible first | exact HB.out | apply below_alloc | apply pw_below_drewN | apply below_drew1) | exact HB.out)) hb); clear HO168; clear HB; have HO168 := n0_; have HO171 := n1_; have HB := n2_; clear n0_ n1_ n2_; clear hb ho23; obtain ⟨Ao25, co25, eo25⟩ := Kd.R_slice HO171.out; subst eo25) | ((with_reducible refine gate_builtin (b := .append) (xs := #[.tmp 41, .tmp 46]) rfl ?_); (try (refine gate_guard (by rfl) ?_; dsimp only)); at_builtin; refine Kd.R_append_rows k50 (w0 := w) w.heap.size rfl (.tmp 41) (.tmp 46) 41 50 (.agg #[(.int .i64 0), (.int .i64 0)]) 16 rfl Try.underlying41 info50 rfl (by decide) (by omega) v167 y166 y169 _ _ _ (fun k_ => some k_ ≠ (.slice Ao25 y169.length co25 : Value).ownBlock) (fun _ => False) rfl rfl ?aO ?aR (fun _ _ h => h) (fun _ h => h.elim) ?aF ?aB ?aS ?aL ?_; (case aR => repeat (first | exact (Kd.R_reads' HO171.out).2.2 | (with_reducible refine Kd.C_alloc ?_ _) | (with_reducible refine Kd.C_drewN ?_ _) | (with_reducible refine Kd.C_drew ?_))); (case aB => exact (by repeat (first | (with_reducible first | exact HB.out | apply below_alloc | apply pw_below_drewN | apply below_drew1) | exact HB.out))); (case aF => exact (fun k_ hk => Kd.fresh' (Kd.R_lt (by (with_reducible repeat (first | apply Kd.R_alloc | apply Kd.R_drewN | apply Kd.R_drew)); exact HO171.out)) k_ hk)); (case aO => exact (by (with_reducible repeat (first | apply Kd.R_alloc | apply Kd.R_drewN | apply Kd.R_drew)); exact Kd.R_mono HO168.out (fun _ hk => hk.2))); (case aS => exact (below_size (by repeat (first | (with_reducible first | exact HB.out | apply below_alloc | apply pw_below_drewN | apply below_drew1) | exact HB.out)))); (case aL => have := LMc16.out; omega); intro v173 w24 ho hb hg hat; rw [← Ny172.out] at ho; have n0_ := Aside0.mk (Kd.R_after (ok := (fun _ => True)) (by (with_reducible repeat (first | apply Kd.R_alloc | apply Kd.R_drewN | apply Kd.R_drew)); exact HO171.out) hg hat); have n1_ := Aside0.mk (hb); have n2_ := Aside0.mk (ho); clear HO171; clear HB; clear HO168; have HO171 := n0_; have HB := n1_; have HO174 := n2_; clear n0_ n1_ n2_; clear ho hb hg hat; obtain ⟨Ao26, co26, eo26⟩ := Kd.R_slice HO174.out; subst eo26) | (go_at_call 17; (with_reducible refine (impl_Moves.calls _ _ l0 _ _ y172 t175 _ ?side1 ?side2 ?side3 ?side4 A17.out).mono ?_); (case side1 => repeat (first | exact (Kd.C_below HR0.out HB.out) | (with_reducible refine Kd.C_alloc ?_ _) | (with_reducible refine Kd.C_drewN ?_ _) | (with_reducible refine Kd.C_drew ?_))); (case side2 => exact HC0.out); (case side3 => repeat (first | exact (Kd.R_reads' HO174.out).2.2 | (with_reducible refine Kd.C_alloc ?_ _) | (with_reducible refine Kd.C_drewN ?_ _) | (with_reducible refine Kd.C_drew ?_))); (case side4 => exact (Kd.R_reads' HO174.out).2.1); rintro e w27 ⟨v176, rfl, ho0, hb⟩; have n0_ := Aside0.mk (Kd.R_below (by (with_reducible repeat (first | apply Kd.R_alloc | apply Kd.R_drewN | apply Kd.R_drew)); exact HO171.out) hb); have n1_ := Aside0.mk (Kd.R_below (by (with_reducible repeat (first | apply Kd.R_alloc | apply Kd.R_drewN | apply Kd.R_drew)); exact HO174.out) hb); have n2_ := Aside0.mk (Kd.R_lower ho0 (below_size (by repeat (first | (with_reducible first | exact HB.out | apply below_alloc | apply pw_below_drewN | apply below_drew1) | exact HB.out)))); have n3_ := Aside0.mk (below_step (by repeat (first | (with_reducible first | exact HB.out | apply below_alloc | apply pw_below_drewN | apply below_drew1) | exact HB.out)) hb); clear HO171; clear HO174; clear HB; have HO171 := n0_; have HO174 := n1_; have HO177 := n2_; have HB := n3_; clear n0_ n1_ n2_ n3_; (try clear hb); (try clear hb2); (try clear hk); (try clear hi); (try clear ho0))); go_upto_region 7 with (first | ((with_reducible refine gate_dst (N := 39) rfl ?_); (try (refine gate_guard (by rfl) ?_; dsimp only)); refine Kd.R_lit k50 _ 50 ?hg (N := 39) ?hd (xs := ([] : List (S50))) (inner := []) (ok := fun _ => True) (okp := fun _ => True) ?hr ?hp (fun _ hk => hk) trivial (Below.refl _ _) (Nat.le_refl _) (by simp) ?_; (case hd => rfl); (case hg => rfl); (case hr => first | (go_simp; done) | (go_simp; rfl)); (case hp => exact (Reps.none _ _)); intro v164 w19 ho20 hb hg_ hnew_; clear hg_ hnew_; (first | rw [← Ny163.out] at ho20 | (simp only [Int.reduceToNat] at ho20; rw [← Ny163.out] at ho20)); have n0_ := Aside0.mk (Kd.R_lower ho20 (below_size (by repeat (first | (with_reducible first | exact HB.out | apply below_alloc | apply pw_below_drewN | apply below_drew1) | exact HB.out)))); have n1_ := Aside0.mk (below_step (by repeat (first | (with_reducible first | exact HB.out | apply below_alloc | apply pw_below_drewN | apply below_drew1) | exact HB.out)) hb); clear HB; have HO165 := n0_; have HB := n1_; clear n0_ n1_; clear hb ho20) | ((with_reducible refine gate_builtin (b := .append) (xs := #[.tmp 39, .tmp 40]) rfl ?_); (try (refine gate_guard (by rfl) ?_; dsimp only)); at_builtin; refine Kd.R_append_rows k50 (w0 := w) w.heap.size rfl (.tmp 39) (.tmp 40) 41 50 (.agg #[(.int .i64 0), (.int .i64 0)]) 16 rfl Try.underlying41 info50 rfl (by decide) (by omega) v164 y163 l1 _ _ _ (fun _ => True) (fun _ => False) rfl rfl ?aO ?aR (fun _ _ h => h) (fun _ h => h.elim) ?aF ?aB ?aS ?aL ?_; (case aR => repeat (first | exact (Kd.C_below HR1.out HB.out) | (with_reducible refine Kd.C_alloc ?_ _) | (with_reducible refine Kd.C_drewN ?_ _) | (with_reducible refine Kd.C_drew ?_))); (case aB => exact (by repeat (first | (with_reducible first | exact HB.out | apply below_alloc | apply pw_below_drewN | apply below_drew1) | exact HB.out))); (case aF => exact (fun _ _ => trivial)); (case aO => exact (by (with_reducible repeat (first | apply Kd.R_alloc | apply Kd.R_drewN | apply Kd.R_drew)); exact HO165.out)); (case aS => exact (below_size (by repeat (first | (with_reducible first | exact HB.out | apply below_alloc | apply pw_below_drewN | apply below_drew1) | exact HB.out)))); (case aL => have := LMc15.out; omega); intro v167 w21 ho hb hg hat; rw [← Ny166.out] at ho; have n0_ := Aside0.mk (hb); have n1_ := Aside0.mk (ho); clear HB; clear HO165; have HB := n0_; have HO168 := n1_; clear n0_ n1_; clear ho hb hg hat) | ((with_reducible refine gate_dst (N := 46) rfl ?_); (try (refine gate_guard (by rfl) ?_; dsimp only)); refine Kd.R_lit k50 _ 50 ?hg (N := 46) ?hd (xs := ([(⟨4, 0⟩ : S50), (⟨0, 0⟩ : S50), (⟨1, 0⟩ : S50), (⟨4, 0⟩ : S50)] : List (S50))) (inner := [.int .i64 4, .int .i64 0, .int .i64 0, .int .i64 0, .int .i64 1, .int .i64 0, .int .i64 4, .int .i64 0]) (ok := fun _ => True) (okp := fun _ => True) ?hr ?hp (fun _ hk => hk) trivial (Below.refl _ _) (Nat.le_refl _) (by simp) ?_; (case hd => rfl); (case hg => rfl); (case hr => first | (go_simp; done) | (go_simp; rfl)); (case hp => exact (Reps.c2 (show Kd.M k50 _ _ _ (⟨4, 0⟩ : S50) [.int .i64 4, .int .i64 0] from (k50_mkM _ _ _ (⟨4, 0⟩ : S50) )) (Reps.c2 (show Kd.M k50 _ _ _ (⟨0, 0⟩ : S50) [.int .i64 0, .int .i64 0] from (k50_mkM _ _ _ (⟨0, 0⟩ : S50) )) (Reps.c2 (show Kd.M k50 _ _ _ (⟨1, 0⟩ : S50) [.int .i64 1, .int .i64 0] from (k50_mkM _ _ _ (⟨1, 0⟩ : S50) )) (Reps.c2 (show Kd.M k50 _ _ _ (⟨4, 0⟩ : S50) [.int .i64 4, .int .i64 0] from (k50_mkM _ _ _ (⟨4, 0⟩ : S50) )) (Reps.none _ _)))))); intro v170 w22 ho23 hb hg_ hnew_; clear hg_ hnew_; (first | rw [← Ny169.out] at ho23 | (simp only [Int.reduceToNat] at ho23; rw [← Ny169.out] at ho23)); have n0_ := Aside0.mk (Kd.R_elder' (by (with_reducible repeat (first | apply Kd.R_alloc | apply Kd.R_drewN | apply Kd.R_drew)); exact HO168.out) (Kd.R_base ho23) hb); have n1_ := Aside0.mk (Kd.R_lower (Kd.R_new' ho23 (Kd.R_lt (by (with_reducible repeat (first | apply Kd.R_alloc | apply Kd.R_drewN | apply Kd.R_drew)); exact HO168.out))) (below_size (by repeat (first | (with_reducible first | exact HB.out | apply below_alloc | apply pw_below_drewN | apply below_drew1) | exact HB.out)))); have n2_ := Aside0.mk (below_step (by repeat (first | (with_reducible first | exact HB.out | apply below_alloc | apply pw_below_drewN | apply below_drew1) | exact HB.out)) hb); clear HO168; clear HB; have HO168 := n0_; have HO171 := n1_; have HB := n2_; clear n0_ n1_ n2_; clear hb ho23; obtain ⟨Ao25, co25, eo25⟩ := Kd.R_slice HO171.out; subst eo25) | ((with_reducible refine gate_builtin (b := .append) (xs := #[.tmp 41, .tmp 46]) rfl ?_); (try (refine gate_guard (by rfl) ?_; dsimp only)); at_builtin; refine Kd.R_append_rows k50 (w0 := w) w.heap.size rfl (.tmp 41) (.tmp 46) 41 50 (.agg #[(.int .i64 0), (.int .i64 0)]) 16 rfl Try.underlying41 info50 rfl (by decide) (by omega) v167 y166 y169 _ _ _ (fun k_ => some k_ ≠ (.slice Ao25 y169.length co25 : Value).ownBlock) (fun _ => False) rfl rfl ?aO ?aR (fun _ _ h => h) (fun _ h => h.elim) ?aF ?aB ?aS ?aL ?_; (case aR => repeat (first | exact (Kd.R_reads' HO171.out).2.2 | (with_reducible refine Kd.C_alloc ?_ _) | (with_reducible refine Kd.C_drewN ?_ _) | (with_reducible refine Kd.C_drew ?_))); (case aB => exact (by repeat (first | (with_reducible first | exact HB.out | apply below_alloc | apply pw_below_drewN | apply below_drew1) | exact HB.out))); (case aF => exact (fun k_ hk => Kd.fresh' (Kd.R_lt (by (with_reducible repeat (first | apply Kd.R_alloc | apply Kd.R_drewN | apply Kd.R_drew)); exact HO171.out)) k_ hk)); (case aO => exact (by (with_reducible repeat (first | apply Kd.R_alloc | apply Kd.R_drewN | apply Kd.R_drew)); exact Kd.R_mono HO168.out (fun _ hk => hk.2))); (case aS => exact (below_size (by repeat (first | (with_reducible first | exact HB.out | apply below_alloc | apply pw_below_drewN | apply below_drew1) | exact HB.out)))); (case aL => have := LMc16.out; omega); intro v173 w24 ho hb hg hat; rw [← Ny172.out] at ho; have n0_ := Aside0.mk (Kd.R_after (ok := (fun _ => True)) (by (with_reducible repeat (first | apply Kd.R_alloc | apply Kd.R_drewN | apply Kd.R_drew)); exact HO171.out) hg hat); have n1_ := Aside0.mk (hb); have n2_ := Aside0.mk (ho); clear HO171; clear HB; clear HO168; have HO171 := n0_; have HB := n1_; have HO174 := n2_; clear n0_ n1_ n2_; clear ho hb hg hat; obtain ⟨Ao26, co26, eo26⟩ := Kd.R_slice HO174.out; subst eo26) | (go_at_call 17; (with_reducible refine (impl_Moves.calls _ _ l0 _ _ y172 t175 _ ?side1 ?side2 ?side3 ?side4 A17.out).mono ?_); (case side1 => repeat (first | exact (Kd.C_below HR0.out HB.out) | (with_reducible refine Kd.C_alloc ?_ _) | (with_reducible refine Kd.C_drewN ?_ _) | (with_reducible refine Kd.C_drew ?_))); (case side2 => exact HC0.out); (case side3 => repeat (first | exact (Kd.R_reads' HO174.out).2.2 | (with_reducible refine Kd.C_alloc ?_ _) | (with_reducible refine Kd.C_drewN ?_ _) | (with_reducible refine Kd.C_drew ?_))); (case side4 => exact (Kd.R_reads' HO174.out).2.1); rintro e w27 ⟨v176, rfl, ho0, hb⟩; have n0_ := Aside0.mk (Kd.R_below (by (with_reducible repeat (first | apply Kd.R_alloc | apply Kd.R_drewN | apply Kd.R_drew)); exact HO171.out) hb); have n1_ := Aside0.mk (Kd.R_below (by (with_reducible repeat (first | apply Kd.R_alloc | apply Kd.R_drewN | apply Kd.R_drew)); exact HO174.out) hb); have n2_ := Aside0.mk (Kd.R_lower ho0 (below_size (by repeat (first | (with_reducible first | exact HB.out | apply below_alloc | apply pw_below_drewN | apply below_drew1) | exact HB.out)))); have n3_ := Aside0.mk (below_step (by repeat (first | (with_reducible first | exact HB.out | apply below_alloc | apply pw_below_drewN | apply below_drew1) | exact HB.out)) hb); clear HO171; clear HO174; clear HB; have HO171 := n0_; have HO174 := n1_; have HO177 := n2_; have HB := n3_; clear n0_ n1_ n2_ n3_; (try clear hb); (try clear hb2); (try clear hk); (try clear hi); (try clear ho0))))
                  (try simp only [Act.put, List.setIfInBounds_toArray, List.set_cons_zero, List.set_cons_succ])
                  go_cut [82] (fun v82 wc => ∃ (kq : Nat) (x82_17 : Bool), v82 = .bool x82_17 ∧ Aside0 (laws_FnMovesEnds.j2 kq l0 t175 (l1.length : Int) x82_17 = some r) ∧ Aside0 (kq ≤ kj6) ∧ Aside0 (Kd.R k52 52 wc w.heap.size (fun _ => True) v176 t175) ∧ Aside0 (Below w.heap.size w wc))
                  case first =>
                    have H := HC18.out
                    clear HC18
                    by_cases c28 : (t175.length : Int) = (wrap64 ((l1.length : Int) + 4))
                    · rw [if_pos c28] at H
                      have c28b0 : ((t175.length : Int) == (wrap64 ((l1.length : Int) + 4))) = true := beq_iff_eq.mpr c28
                      have c28b1 : ((t175.length : Int) != (wrap64 ((l1.length : Int) + 4))) = false := bne_eq_false_iff_eq.mpr c28
                      clear c28
                      (first | rw [c28b0] | (simp only [i64_w, i32_w]; rw [c28b0]) | skip)
                      by_cases c29 : 0 ≤ (l1.length : Int)
                      · rw [if_pos c29] at H
                        have c29b0 : decide (0 ≤ (l1.length : Int)) = true := decide_eq_true c29
                        have c29b1 : decide (0 ≤ l1.length) = true := decide_eq_true (by omega)
                        clear c29
                        by_cases c30 : (l1.length : Int) < (t175.length : Int)
                        · rw [if_pos c30] at H
                          have c30b0 : decide ((l1.length : Int) < (t175.length : Int)) = true := decide_eq_true c30
                          have c30b1 : decide (l1.length < t175.length) = true := decide_eq_true (Int.ofNat_lt.mp c30)
                          clear c30
                          by_cases c31 : ((rd_T52 t175 (l1.length : Int)).f1) < 1
                          · rw [if_pos c31] at H
                            have c31b0 : decide (((rd_T52 t175 (l1.length : Int)).f1) < 1) = true := decide_eq_true c31
                            clear c31
                            have H' := Aside0.mk H
                            clear H
                            obtain ⟨Ao32, co32, eo32⟩ := Kd.R_slice HO177.out
                            subst eo32
                            have p178 : 0 ≤ ((l1.length : Int) : Int) := of_decide_eq_true (by first | (with_reducible assumption) | assumption)
                            have q178 : (l1.length : Int) < (t175.length : Int) := of_decide_eq_true (by first | (with_reducible assumption) | assumption)
                            obtain ⟨ad178, e178, hx178_0, hx178_1⟩ := at_T52 (Kd.R_reads' HO177.out).2.2 (l1.length : Int) p178 q178
                            cases e178
                            (try simp only [Go.IntWalk.toNatUp] at hx178_0)
                            (try simp only [Go.IntWalk.toNatUp] at hx178_1)
                            replace p178 := eq_true p178
                            replace q178 := eq_true q178
                            go_wp2
                            repeat (go_quiet (fail); try go_wp2)
                            go_meet
                            case rel => exact ⟨_, (true), (by first | rfl | (simp; done) | (simp [*]; done)), H', ⟨by have := HJ2.out; have := HJ6.out; first | omega | exact Nat.le_refl _⟩, ⟨by (with_reducible repeat (first | apply Kd.R_alloc | apply Kd.R_drewN | apply Kd.R_drew)); exact HO177.out⟩, ⟨by repeat (first | (with_reducible first | exact HB.out | apply below_alloc | apply pw_below_drewN | apply below_drew1) | exact HB.out)⟩⟩
                          · rw [if_neg c31] at H
                            have c31b0 : decide (((rd_T52 t175 (l1.length : Int)).f1) < 1) = false := decide_eq_false c31
                            clear c31
                            by_cases c33 : ((rd_T52 t175 (l1.length : Int)).f1) > (l0.length : Int)
                            · rw [if_pos c33] at H
                              have c33b0 : decide ((l0.length : Int) < ((rd_T52 t175 (l1.length : Int)).f1)) = true := decide_eq_true c33
                              clear c33
                              have H' := Aside0.mk H
                              clear H
                              obtain ⟨Ao34, co34, eo34⟩ := Kd.R_slice HO177.out
                              subst eo34
                              have p178 : 0 ≤ ((l1.length : Int) : Int) := of_decide_eq_true (by first | (with_reducible assumption) | assumption)
                              have q178 : (l1.length : Int) < (t175.length : Int) := of_decide_eq_true (by first | (with_reducible assumption) | assumption)
                              obtain ⟨ad178, e178, hx178_0, hx178_1⟩ := at_T52 (Kd.R_reads' HO177.out).2.2 (l1.length : Int) p178 q178
                              cases e178
                              (try simp only [Go.IntWalk.toNatUp] at hx178_0)
                              (try simp only [Go.IntWalk.toNatUp] at hx178_1)
                              replace p178 := eq_true p178
                              replace q178 := eq_true q178
                              have p179 : 0 ≤ ((l1.length : Int) : Int) := of_decide_eq_true (by first | (with_reducible assumption) | assumption)
                              have q179 : (l1.length : Int) < (t175.length : Int) := of_decide_eq_true (by first | (with_reducible assumption) | assumption)
                              obtain ⟨ad179, e179, hx179_0, hx179_1⟩ := at_T52 (Kd.R_reads' HO177.out).2.2 (l1.length : Int) p179 q179
                              obtain rfl : ad178 = ad179 := (by injection e179)
                              (try simp only [Go.IntWalk.toNatUp] at hx179_0)
                              (try simp only [Go.IntWalk.toNatUp] at hx179_1)
                              replace p179 := eq_true p179
                              replace q179 := eq_true q179
                              go_wp2
                              repeat (go_quiet (fail); try go_wp2)
                              go_meet
                              case rel => exact ⟨_, (true), (by first | rfl | (simp; done) | (simp [*]; done)), H', ⟨by have := HJ2.out; have := HJ6.out; first | omega | exact Nat.le_refl _⟩, ⟨by (with_reducible repeat (first | apply Kd.R_alloc | apply Kd.R_drewN | apply Kd.R_drew)); exact HO177.out⟩, ⟨by repeat (first | (with_reducible first | exact HB.out | apply below_alloc | apply pw_below_drewN | apply below_drew1) | exact HB.out)⟩⟩
                            · rw [if_neg c33] at H
                              have c33b0 : decide ((l0.length : Int) < ((rd_T52 t175 (l1.length : Int)).f1)) = false := decide_eq_false c33
                              clear c33
                              obtain ⟨ji35, hji35⟩ : ∃ j_ : Int, (wrap64 ((l1.length : Int) + 3)) = j_ := ⟨_, rfl⟩
                              replace H : (if 0 ≤ (ji35) then (if (ji35) < (t175.length : Int) then (laws_FnMovesEnds.j2 kj6 l0 t175 (l1.length : Int) (decide (((rd_T52 t175 (ji35)).f1) < 1))) else (none)) else (none)) = some r := by first | (rw [hji35] at H; exact H) | (simp only [hji35] at H ⊢; exact H)
                              have hji35w : (IntKind.i64.wrap ((l1.length : Int) + 3)) = ji35 := (i64_w _).trans hji35
                              by_cases c36 : 0 ≤ (ji35)
                              · rw [if_pos c36] at H
                                have c36b0 : decide (0 ≤ (ji35)) = true := decide_eq_true c36
                                clear c36
                                by_cases c37 : (ji35) < (t175.length : Int)
                                · rw [if_pos c37] at H
                                  have c37b0 : decide ((ji35) < (t175.length : Int)) = true := decide_eq_true c37
                                  clear c37
                                  have H' := Aside0.mk H
                                  clear H
                                  obtain ⟨Ao38, co38, eo38⟩ := Kd.R_slice HO177.out
                                  subst eo38
                                  have p178 : 0 ≤ ((l1.length : Int) : Int) := of_decide_eq_true (by first | (with_reducible assumption) | assumption)
                                  have q178 : (l1.length : Int) < (t175.length : Int) := of_decide_eq_true (by first | (with_reducible assumption) | assumption)
                                  obtain ⟨ad178, e178, hx178_0, hx178_1⟩ := at_T52 (Kd.R_reads' HO177.out).2.2 (l1.length : Int) p178 q178
                                  cases e178
                                  (try simp only [Go.IntWalk.toNatUp] at hx178_0)
                                  (try simp only [Go.IntWalk.toNatUp] at hx178_1)
                                  replace p178 := eq_true p178
                                  replace q178 := eq_true q178
                                  have p179 : 0 ≤ ((l1.length : Int) : Int) := of_decide_eq_true (by first | (with_reducible assumption) | assumption)
                                  have q179 : (l1.length : Int) < (t175.length : Int) := of_decide_eq_true (by first | (with_reducible assumption) | assumption)
                                  obtain ⟨ad179, e179, hx179_0, hx179_1⟩ := at_T52 (Kd.R_reads' HO177.out).2.2 (l1.length : Int) p179 q179
                                  obtain rfl : ad178 = ad179 := (by injection e179)
                                  (try simp only [Go.IntWalk.toNatUp] at hx179_0)
                                  (try simp only [Go.IntWalk.toNatUp] at hx179_1)
                                  replace p179 := eq_true p179
                                  replace q179 := eq_true q179
                                  have p180 : 0 ≤ ((ji35) : Int) := of_decide_eq_true (by first | (with_reducible assumption) | assumption)
                                  have q180 : (ji35) < (t175.length : Int) := of_decide_eq_true (by first | (with_reducible assumption) | assumption)
                                  obtain ⟨ad180, e180, hx180_0, hx180_1⟩ := at_T52 (Kd.R_reads' HO177.out).2.2 (ji35) p180 q180
                                  obtain rfl : ad178 = ad180 := (by injection e180)
                                  replace p180 := eq_true p180
                                  replace q180 := eq_true q180
                                  go_wp2
                                  repeat (go_quiet (fail); try go_wp2)
                                  go_meet
                                  case rel => exact ⟨_, (decide (((rd_T52 t175 (ji35)).f1) < 1)), (by first | rfl | (simp; done) | (simp only [← hji35] <;> (first | rfl | simp)) | (simp [*]; done)), H', ⟨by have := HJ2.out; have := HJ6.out; first | omega | exact Nat.le_refl _⟩, ⟨by (with_reducible repeat (first | apply Kd.R_alloc | apply Kd.R_drewN | apply Kd.R_drew)); exact HO177.out⟩, ⟨by repeat (first | (with_reducible first | exact HB.out | apply below_alloc | apply pw_below_drewN | apply below_drew1) | exact HB.out)⟩⟩
                                · rw [if_neg c37] at H
                                  exact absurd H (by simp)
                              · rw [if_neg c36] at H
                                exact absurd H (by simp)
                        · rw [if_neg c30] at H
                          exact absurd H (by simp)
                      · rw [if_neg c29] at H
                        exact absurd H (by simp)
                    · rw [if_neg c28] at H
                      have c28b0 : ((t175.length : Int) == (wrap64 ((l1.length : Int) + 4))) = false := beq_eq_false_iff_ne.mpr c28
                      have c28b1 : ((t175.length : Int) != (wrap64 ((l1.length : Int) + 4))) = true := bne_iff_ne.mpr c28
                      (first | rw [c28b0] | (simp only [i64_w, i32_w]; rw [c28b0]) | skip)
                      have H' := Aside0.mk H
                      clear H
                      obtain ⟨Ao39, co39, eo39⟩ := Kd.R_slice HO177.out
                      subst eo39
                      go_wp2
                      repeat (go_quiet (fail); try go_wp2)
                      go_meet
                      case rel => exact ⟨_, (true), (by first | rfl | (simp; done) | (simp [*]; done)), H', ⟨by have := HJ2.out; have := HJ6.out; first | omega | exact Nat.le_refl _⟩, ⟨by (with_reducible repeat (first | apply Kd.R_alloc | apply Kd.R_drewN | apply Kd.R_drew)); exact HO177.out⟩, ⟨by repeat (first | (with_reducible first | exact HB.out | apply below_alloc | apply pw_below_drewN | apply below_drew1) | exact HB.out)⟩⟩
                  case rest =>
                    clear HC18
                    try clear c1
                    try clear p1
                    try clear q1
                    try clear hx1
                    try clear c2
                    try clear p2
                    try clear c3
                    try clear c5
                    try clear c6
                    try clear p6
                    try clear c8
                    try clear c8b0
                    try clear c8b1
                    try clear c8b2
                    try clear c9
                    try clear c9b0
                    try clear c9b1
                    try clear c10
                    try clear c10b0
                    try clear c10b1
                    try clear c12
                    try clear c14
                    try clear c15
                    try clear c16
                    try clear p17
                    try clear q17
                    try clear hx17
                    try clear p18
                    try clear q18
                    try clear hx18
                    try clear c28
                    try clear c28b0
                    try clear c28b1
                    try clear c29
                    try clear c29b0
                    try clear c29b1
                    try clear c30
                    try clear c30b0
                    try clear c30b1
                    try clear c31
                    try clear c31b0
                    try clear c33
                    try clear c33b0
                    try clear c36
                    try clear c36b0
                    try clear c37
                    try clear c37b0
                    try clear hx178_0
                    try clear hx178_1
                    try clear hx179_0
                    try clear hx179_1
                    try clear hx180_0
                    try clear hx180_1
                    try clear p178
                    try clear p179
                    try clear p180
                    try clear p2
                    try clear q178
                    try clear q179
                    try clear q180
                    obtain ⟨kq, x82_17, rfl, HA, HJ17, HO_5, HB⟩ := hcut
                    cases kq with
                    | zero => exact absurd HA.out (by simp [laws_FnMovesEnds.j2])
                    | succ kj17 =>
                      have H := HA.out
                      clear HA
                      simp only [laws_FnMovesEnds.j2] at H
                      by_cases c40 : x82_17 = true
                      · subst c40
                        have H1 : (some false) = some r := by rw [if_pos rfl] at H; exact H
                        clear H
                        have H := H1
                        clear H1
                        obtain rfl := Option.some.inj H
                        go_wp2
                        repeat (go_quiet (fail); try go_wp2)
                        go_ret
                        exact ⟨by first | rfl | (simp [errW_none, errW_some] <;> rfl) | (simp [*, errW_none, errW_some] <;> rfl), by repeat (first | (with_reducible first | exact HB.out | apply below_alloc | apply pw_below_drewN | apply below_drew1) | exact HB.out)⟩
                      · replace c40 := Bool.eq_false_iff.mpr c40
                        subst c40
                        have H1 : (if 0 ≤ (l1.length : Int) then (if (l1.length : Int) < (t175.length : Int) then (if ((rd_T52 t175 (l1.length : Int)).f1) = (l0.length : Int) then (if 0 ≤ (wrap64 ((l1.length : Int) + 3)) then (if (wrap64 ((l1.length : Int) + 3)) < (t175.length : Int) then (some (((rd_T52 t175 (wrap64 ((l1.length : Int) + 3))).f1) == (mx 1 (wrap64 ((l0.length : Int) - 1))))) else (none)) else (none)) else (if 0 ≤ (wrap64 ((l1.length : Int) + 3)) then (if (wrap64 ((l1.length : Int) + 3)) < (t175.length : Int) then (if ((rd_T52 t175 (wrap64 ((l1.length : Int) + 3))).f1) = ((rd_T52 t175 (l1.length : Int)).f1) then (if 0 ≤ (wrap64 ((l1.length : Int) + 2)) then (if (wrap64 ((l1.length : Int) + 2)) < (t175.length : Int) then (if 0 ≤ (wrap64 (((rd_T52 t175 (l1.length : Int)).f1) - 1)) then (if (wrap64 (((rd_T52 t175 (l1.length : Int)).f1) - 1)) < (l0.length : Int) then (some (((rd_T52 t175 (wrap64 ((l1.length : Int) + 2))).f0).toList == (rdOf ByteArray.empty l0 (wrap64 (((rd_T52 t175 (l1.length : Int)).f1) - 1))).toList)) else (none)) else (none)) else (none)) else (none)) else (some false)) else (none)) else (none))) else (none)) else (none)) = some r := by rw [if_neg (show ¬ (false = true) by decide)] at H; exact H
                        clear H
                        have H := H1
                        clear H1
                        by_cases c41 : 0 ≤ (l1.length : Int)
                        · rw [if_pos c41] at H
                          have c41b0 : decide (0 ≤ (l1.length : Int)) = true := decide_eq_true c41
                          have c41b1 : decide (0 ≤ l1.length) = true := decide_eq_true (by omega)
                          clear c41
                          by_cases c42 : (l1.length : Int) < (t175.length : Int)
                          · rw [if_pos c42] at H
                            have c42b0 : decide ((l1.length : Int) < (t175.length : Int)) = true := decide_eq_true c42
                            have c42b1 : decide (l1.length < t175.length) = true := decide_eq_true (Int.ofNat_lt.mp c42)
                            clear c42
                            by_cases c43 : ((rd_T52 t175 (l1.length : Int)).f1) = (l0.length : Int)
                            · rw [if_pos c43] at H
                              have c43b0 : (((rd_T52 t175 (l1.length : Int)).f1) == (l0.length : Int)) = true := beq_iff_eq.mpr c43
                              have c43b1 : (((rd_T52 t175 (l1.length : Int)).f1) != (l0.length : Int)) = false := bne_eq_false_iff_eq.mpr c43
                              clear c43
                              obtain ⟨ji44, hji44⟩ : ∃ j_ : Int, (wrap64 ((l1.length : Int) + 3)) = j_ := ⟨_, rfl⟩
                              replace H : (if 0 ≤ (ji44) then (if (ji44) < (t175.length : Int) then (some (((rd_T52 t175 (ji44)).f1) == (mx 1 (wrap64 ((l0.length : Int) - 1))))) else (none)) else (none)) = some r := by first | (rw [hji44] at H; exact H) | (simp only [hji44] at H ⊢; exact H)
                              have hji44w : (IntKind.i64.wrap ((l1.length : Int) + 3)) = ji44 := (i64_w _).trans hji44
                              by_cases c45 : 0 ≤ (ji44)
                              · rw [if_pos c45] at H
                                have c45b0 : decide (0 ≤ (ji44)) = true := decide_eq_true c45
                                clear c45
                                by_cases c46 : (ji44) < (t175.length : Int)
                                · rw [if_pos c46] at H
                                  have c46b0 : decide ((ji44) < (t175.length : Int)) = true := decide_eq_true c46
                                  clear c46
                                  obtain ⟨ji47, hji47⟩ : ∃ j_ : Int, (mx 1 (wrap64 ((l0.length : Int) - 1))) = j_ := ⟨_, rfl⟩
                                  replace H : (some (((rd_T52 t175 (ji44)).f1) == (ji47))) = some r := by first | (rw [hji47] at H; exact H) | (simp only [hji47] at H ⊢; exact H)
                                  have hji47_ : (if 1 < (wrap64 ((l0.length : Int) - 1)) then (wrap64 ((l0.length : Int) - 1)) else 1) = ji47 := hji47
                                  obtain rfl := Option.some.inj H
                                  obtain ⟨Ao48, co48, eo48⟩ := Kd.R_slice HO_5.out
                                  subst eo48
                                  have p181 : 0 ≤ ((l1.length : Int) : Int) := of_decide_eq_true (by first | (with_reducible assumption) | assumption)
                                  have q181 : (l1.length : Int) < (t175.length : Int) := of_decide_eq_true (by first | (with_reducible assumption) | assumption)
                                  obtain ⟨ad181, e181, hx181_0, hx181_1⟩ := at_T52 (Kd.R_reads' HO_5.out).2.2 (l1.length : Int) p181 q181
                                  cases e181
                                  (try simp only [Go.IntWalk.toNatUp] at hx181_0)
                                  (try simp only [Go.IntWalk.toNatUp] at hx181_1)
                                  replace p181 := eq_true p181
                                  replace q181 := eq_true q181
                                  have p182 : 0 ≤ ((ji44) : Int) := of_decide_eq_true (by first | (with_reducible assumption) | assumption)
                                  have q182 : (ji44) < (t175.length : Int) := of_decide_eq_true (by first | (with_reducible assumption) | assumption)
                                  obtain ⟨ad182, e182, hx182_0, hx182_1⟩ := at_T52 (Kd.R_reads' HO_5.out).2.2 (ji44) p182 q182
                                  obtain rfl : ad181 = ad182 := (by injection e182)
                                  replace p182 := eq_true p182
                                  replace q182 := eq_true q182
                                  go_wp2
                                  repeat (go_quiet (fail); try go_wp2)
                                  go_ret
                                  exact ⟨by first | rfl | (simp [errW_none, errW_some] <;> rfl) | (simp only [← hji44, ← hji47]; first | rfl | (simp [errW_none, errW_some] <;> rfl)) | (simp [*, errW_none, errW_some] <;> rfl), by repeat (first | (with_reducible first | exact HB.out | apply below_alloc | apply pw_below_drewN | apply below_drew1) | exact HB.out)⟩
                                · rw [if_neg c46] at H
                                  exact absurd H (by simp)
                              · rw [if_neg c45] at H
                                exact absurd H (by simp)
                            · rw [if_neg c43] at H
                              have c43b0 : (((rd_T52 t175 (l1.length : Int)).f1) == (l0.length : Int)) = false := beq_eq_false_iff_ne.mpr c43
                              have c43b1 : (((rd_T52 t175 (l1.length : Int)).f1) != (l0.length : Int)) = true := bne_iff_ne.mpr c43
                              obtain ⟨ji49, hji49⟩ : ∃ j_ : Int, (wrap64 ((l1.length : Int) + 3)) = j_ := ⟨_, rfl⟩
                              replace H : (if 0 ≤ (ji49) then (if (ji49) < (t175.length : Int) then (if ((rd_T52 t175 (ji49)).f1) = ((rd_T52 t175 (l1.length : Int)).f1) then (if 0 ≤ (wrap64 ((l1.length : Int) + 2)) then (if (wrap64 ((l1.length : Int) + 2)) < (t175.length : Int) then (if 0 ≤ (wrap64 (((rd_T52 t175 (l1.length : Int)).f1) - 1)) then (if (wrap64 (((rd_T52 t175 (l1.length : Int)).f1) - 1)) < (l0.length : Int) then (some (((rd_T52 t175 (wrap64 ((l1.length : Int) + 2))).f0).toList == (rdOf ByteArray.empty l0 (wrap64 (((rd_T52 t175 (l1.length : Int)).f1) - 1))).toList)) else (none)) else (none)) else (none)) else (none)) else (some false)) else (none)) else (none)) = some r := by first | (rw [hji49] at H; exact H) | (simp only [hji49] at H ⊢; exact H)
                              have hji49w : (IntKind.i64.wrap ((l1.length : Int) + 3)) = ji49 := (i64_w _).trans hji49
                              by_cases c50 : 0 ≤ (ji49)
                              · rw [if_pos c50] at H
                                have c50b0 : decide (0 ≤ (ji49)) = true := decide_eq_true c50
                                clear c50
                                by_cases c51 : (ji49) < (t175.length : Int)
                                · rw [if_pos c51] at H
                                  have c51b0 : decide ((ji49) < (t175.length : Int)) = true := decide_eq_true c51
                                  clear c51
                                  by_cases c52 : ((rd_T52 t175 (ji49)).f1) = ((rd_T52 t175 (l1.length : Int)).f1)
                                  · rw [if_pos c52] at H
                                    have c52b0 : (((rd_T52 t175 (ji49)).f1) == ((rd_T52 t175 (l1.length : Int)).f1)) = true := beq_iff_eq.mpr c52
                                    have c52b1 : (((rd_T52 t175 (ji49)).f1) != ((rd_T52 t175 (l1.length : Int)).f1)) = false := bne_eq_false_iff_eq.mpr c52
                                    clear c52
                                    obtain ⟨ji53, hji53⟩ : ∃ j_ : Int, (wrap64 ((l1.length : Int) + 2)) = j_ := ⟨_, rfl⟩
                                    replace H : (if 0 ≤ (ji53) then (if (ji53) < (t175.length : Int) then (if 0 ≤ (wrap64 (((rd_T52 t175 (l1.length : Int)).f1) - 1)) then (if (wrap64 (((rd_T52 t175 (l1.length : Int)).f1) - 1)) < (l0.length : Int) then (some (((rd_T52 t175 (ji53)).f0).toList == (rdOf ByteArray.empty l0 (wrap64 (((rd_T52 t175 (l1.length : Int)).f1) - 1))).toList)) else (none)) else (none)) else (none)) else (none)) = some r := by first | (rw [hji53] at H; exact H) | (simp only [hji53] at H ⊢; exact H)
                                    have hji53w : (IntKind.i64.wrap ((l1.length : Int) + 2)) = ji53 := (i64_w _).trans hji53
                                    by_cases c54 : 0 ≤ (ji53)
                                    · rw [if_pos c54] at H
                                      have c54b0 : decide (0 ≤ (ji53)) = true := decide_eq_true c54
                                      clear c54
                                      by_cases c55 : (ji53) < (t175.length : Int)
                                      · rw [if_pos c55] at H
                                        have c55b0 : decide ((ji53) < (t175.length : Int)) = true := decide_eq_true c55
                                        clear c55
                                        obtain ⟨ji56, hji56⟩ : ∃ j_ : Int, (wrap64 (((rd_T52 t175 (l1.length : Int)).f1) - 1)) = j_ := ⟨_, rfl⟩
                                        replace H : (if 0 ≤ (ji56) then (if (ji56) < (l0.length : Int) then (some (((rd_T52 t175 (ji53)).f0).toList == (rdOf ByteArray.empty l0 (ji56)).toList)) else (none)) else (none)) = some r := by first | (rw [hji56] at H; exact H) | (simp only [hji56] at H ⊢; exact H)
                                        have hji56w : (IntKind.i64.wrap (((rd_T52 t175 (l1.length : Int)).f1) - 1)) = ji56 := (i64_w _).trans hji56
                                        by_cases c57 : 0 ≤ (ji56)
                                        · rw [if_pos c57] at H
                                          have c57b0 : decide (0 ≤ (ji56)) = true := decide_eq_true c57
                                          clear c57
                                          by_cases c58 : (ji56) < (l0.length : Int)
                                          · rw [if_pos c58] at H
                                            have c58b0 : decide ((ji56) < (l0.length : Int)) = true := decide_eq_true c58
                                            clear c58
                                            obtain rfl := Option.some.inj H
                                            obtain ⟨Ao59, co59, eo59⟩ := Kd.R_slice HO_5.out
                                            subst eo59
                                            have p181 : 0 ≤ ((l1.length : Int) : Int) := of_decide_eq_true (by first | (with_reducible assumption) | assumption)
                                            have q181 : (l1.length : Int) < (t175.length : Int) := of_decide_eq_true (by first | (with_reducible assumption) | assumption)
                                            obtain ⟨ad181, e181, hx181_0, hx181_1⟩ := at_T52 (Kd.R_reads' HO_5.out).2.2 (l1.length : Int) p181 q181
                                            cases e181
                                            (try simp only [Go.IntWalk.toNatUp] at hx181_0)
                                            (try simp only [Go.IntWalk.toNatUp] at hx181_1)
                                            replace p181 := eq_true p181
                                            replace q181 := eq_true q181
                                            have p183 : 0 ≤ ((ji49) : Int) := of_decide_eq_true (by first | (with_reducible assumption) | assumption)
                                            have q183 : (ji49) < (t175.length : Int) := of_decide_eq_true (by first | (with_reducible assumption) | assumption)
                                            obtain ⟨ad183, e183, hx183_0, hx183_1⟩ := at_T52 (Kd.R_reads' HO_5.out).2.2 (ji49) p183 q183
                                            obtain rfl : ad181 = ad183 := (by injection e183)
                                            replace p183 := eq_true p183
                                            replace q183 := eq_true q183
                                            have p184 : 0 ≤ ((l1.length : Int) : Int) := of_decide_eq_true (by first | (with_reducible assumption) | assumption)
                                            have q184 : (l1.length : Int) < (t175.length : Int) := of_decide_eq_true (by first | (with_reducible assumption) | assumption)
                                            obtain ⟨ad184, e184, hx184_0, hx184_1⟩ := at_T52 (Kd.R_reads' HO_5.out).2.2 (l1.length : Int) p184 q184
                                            obtain rfl : ad181 = ad184 := (by injection e184)
                                            (try simp only [Go.IntWalk.toNatUp] at hx184_0)
                                            (try simp only [Go.IntWalk.toNatUp] at hx184_1)
                                            replace p184 := eq_true p184
                                            replace q184 := eq_true q184
                                            have p185 : 0 ≤ ((ji53) : Int) := of_decide_eq_true (by first | (with_reducible assumption) | assumption)
                                            have q185 : (ji53) < (t175.length : Int) := of_decide_eq_true (by first | (with_reducible assumption) | assumption)
                                            obtain ⟨ad185, e185, hx185_0, hx185_1⟩ := at_T52 (Kd.R_reads' HO_5.out).2.2 (ji53) p185 q185
                                            obtain rfl : ad181 = ad185 := (by injection e185)
                                            replace p185 := eq_true p185
                                            replace q185 := eq_true q185
                                            have p186 : 0 ≤ ((l1.length : Int) : Int) := of_decide_eq_true (by first | (with_reducible assumption) | assumption)
                                            have q186 : (l1.length : Int) < (t175.length : Int) := of_decide_eq_true (by first | (with_reducible assumption) | assumption)
                                            obtain ⟨ad186, e186, hx186_0, hx186_1⟩ := at_T52 (Kd.R_reads' HO_5.out).2.2 (l1.length : Int) p186 q186
                                            obtain rfl : ad181 = ad186 := (by injection e186)
                                            (try simp only [Go.IntWalk.toNatUp] at hx186_0)
                                            (try simp only [Go.IntWalk.toNatUp] at hx186_1)
                                            replace p186 := eq_true p186
                                            replace q186 := eq_true q186
                                            have p187 : 0 ≤ ((ji56) : Int) := of_decide_eq_true (by first | (with_reducible assumption) | assumption)
                                            have q187 : (ji56) < (l0.length : Int) := of_decide_eq_true (by first | (with_reducible assumption) | assumption)
                                            obtain ⟨ad187, e187, hx187_0⟩ := Kd.at_string HR0.out (ji56) p187 q187
                                            cases e187
                                            replace hx187_0 := (HB.out.cell (World.block_lt_of_cell? w _ hx187_0)).trans hx187_0
                                            replace p187 := eq_true p187
                                            replace q187 := eq_true q187
                                            go_wp2
                                            repeat (go_quiet (fail); try go_wp2)
                                            go_ret
                                            exact ⟨by first | rfl | (simp [errW_none, errW_some] <;> rfl) | (simp only [← hji49, ← hji53, ← hji56]; first | rfl | (simp [errW_none, errW_some] <;> rfl)) | (simp [*, errW_none, errW_some] <;> rfl), by repeat (first | (with_reducible first | exact HB.out | apply below_alloc | apply pw_below_drewN | apply below_drew1) | exact HB.out)⟩
                                          · rw [if_neg c58] at H
                                            exact absurd H (by simp)
                                        · rw [if_neg c57] at H
                                          exact absurd H (by simp)
                                      · rw [if_neg c55] at H
                                        exact absurd H (by simp)
                                    · rw [if_neg c54] at H
                                      exact absurd H (by simp)
                                  · rw [if_neg c52] at H
                                    have c52b0 : (((rd_T52 t175 (ji49)).f1) == ((rd_T52 t175 (l1.length : Int)).f1)) = false := beq_eq_false_iff_ne.mpr c52
                                    have c52b1 : (((rd_T52 t175 (ji49)).f1) != ((rd_T52 t175 (l1.length : Int)).f1)) = true := bne_iff_ne.mpr c52
                                    obtain rfl := Option.some.inj H
                                    obtain ⟨Ao60, co60, eo60⟩ := Kd.R_slice HO_5.out
                                    subst eo60
                                    have p181 : 0 ≤ ((l1.length : Int) : Int) := of_decide_eq_true (by first | (with_reducible assumption) | assumption)
                                    have q181 : (l1.length : Int) < (t175.length : Int) := of_decide_eq_true (by first | (with_reducible assumption) | assumption)
                                    obtain ⟨ad181, e181, hx181_0, hx181_1⟩ := at_T52 (Kd.R_reads' HO_5.out).2.2 (l1.length : Int) p181 q181
                                    cases e181
                                    (try simp only [Go.IntWalk.toNatUp] at hx181_0)
                                    (try simp only [Go.IntWalk.toNatUp] at hx181_1)
                                    replace p181 := eq_true p181
                                    replace q181 := eq_true q181
                                    have p183 : 0 ≤ ((ji49) : Int) := of_decide_eq_true (by first | (with_reducible assumption) | assumption)
                                    have q183 : (ji49) < (t175.length : Int) := of_decide_eq_true (by first | (with_reducible assumption) | assumption)
                                    obtain ⟨ad183, e183, hx183_0, hx183_1⟩ := at_T52 (Kd.R_reads' HO_5.out).2.2 (ji49) p183 q183
                                    obtain rfl : ad181 = ad183 := (by injection e183)
                                    replace p183 := eq_true p183
                                    replace q183 := eq_true q183
                                    have p184 : 0 ≤ ((l1.length : Int) : Int) := of_decide_eq_true (by first | (with_reducible assumption) | assumption)
                                    have q184 : (l1.length : Int) < (t175.length : Int) := of_decide_eq_true (by first | (with_reducible assumption) | assumption)
                                    obtain ⟨ad184, e184, hx184_0, hx184_1⟩ := at_T52 (Kd.R_reads' HO_5.out).2.2 (l1.length : Int) p184 q184
                                    obtain rfl : ad181 = ad184 := (by injection e184)
                                    (try simp only [Go.IntWalk.toNatUp] at hx184_0)
                                    (try simp only [Go.IntWalk.toNatUp] at hx184_1)
                                    replace p184 := eq_true p184
                                    replace q184 := eq_true q184
                                    go_wp2
                                    repeat (go_quiet (fail); try go_wp2)
                                    go_ret
                                    exact ⟨by first | rfl | (simp [errW_none, errW_some] <;> rfl) | (simp only [← hji49]; first | rfl | (simp [errW_none, errW_some] <;> rfl)) | (simp [*, errW_none, errW_some] <;> rfl), by repeat (first | (with_reducible first | exact HB.out | apply below_alloc | apply pw_below_drewN | apply below_drew1) | exact HB.out)⟩
                                · rw [if_neg c51] at H
                                  exact absurd H (by simp)
                              · rw [if_neg c50] at H
                                exact absurd H (by simp)
                          · rw [if_neg c42] at H
                            exact absurd H (by simp)
                        · rw [if_neg c41] at H
                          exact absurd H (by simp)
                · rw [if_neg c16] at H
                  exact absurd H (by simp)
              · rw [if_neg c15] at H
                exact absurd H (by simp)

end Go.Proofs.YtkfkhafmgndgaaaRR.GM
