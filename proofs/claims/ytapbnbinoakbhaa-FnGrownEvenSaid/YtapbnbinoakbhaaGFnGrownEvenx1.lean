-- printed by a program of this session (gprint.py) out of the translation; Lean checks it
import Derived.Test.YtapbnbinoakbhaaGFnGrownEvenx0
import Derived.Test.YtapbnbinoakbhaaGivenGrow
namespace Go.Proofs.Ytapbnbinoakbhaa.GFnGrownEven
open Go.RowKit Go.Proofs.YtapbnbinoakbhaaW.PrintWords Go.Proofs.YtapbnbinoakbhaaW.PrintLast Go.Proofs.Ytapbnbinoakbhaa.GivenGrow Go.Proofs.YtapbnbinoakbhaaW.PrintMore
attribute [local go_sem] max2_int min2_int max_two min_two max_three min_three max_four min_four   -- for this text's walks alone
set_option linter.unusedVariables false
set_option linter.unusedSimpArgs false

/-! ### laws_fits: function 13 -/
def laws_fits.l0 : Nat → List Int → Int → Int → Int → Int → Option (Bool)
  | 0, _, _, _, _, _ => none
  | k + 1, x0, x1, x2, x3, x9 => if x9 < (x0.length : Int) then (if 0 ≤ x9 then (if (rd x0 x9) < x2 then (some false) else (if (rd x0 x9) > x3 then (some false) else (laws_fits.l0 k x0 x1 x2 x3 (wrap64 (x9 + 1))))) else (none)) else (some (decide ((x0.length : Int) ≤ x1)))
def laws_fits.f (k : Nat) (l0 : List Int) (a1 : Int) (a2 : Int) (a3 : Int) : Option (Bool) := laws_fits.l0 k l0 a1 a2 a3 0
theorem laws_fits.mono_l : ∀ k, (∀ y0 y1 y2 y3 y4, LeO (laws_fits.l0 k y0 y1 y2 y3 y4) (laws_fits.l0 (k + 1) y0 y1 y2 y3 y4))
  | 0 => fun _ _ _ _ _ r h => by simp [laws_fits.l0] at h
  | k + 1 => by
    have ih0 := laws_fits.mono_l k
    · intro y0 y1 y2 y3 y4
      unfold laws_fits.l0
      repeat' first
      | (with_reducible exact ih0 _ _ _ _ _)
      | (with_reducible exact LeO.refl _)
      | (with_reducible exact LeO.none _)
      | (with_reducible refine LeO.ite ?_ ?_)
      | (with_reducible refine LeO.bind ?_ (fun _ => ?_))
      | exact ih0 _ _ _ _ _
      | exact LeO.none _
      | refine LeO.ite ?_ ?_
      | refine LeO.bind ?_ (fun _ => ?_)
theorem laws_fits.mono : ∀ a0 a1 a2 a3 k, LeO (laws_fits.f k a0 a1 a2 a3) (laws_fits.f (k + 1) a0 a1 a2 a3) := by
  intro a0 a1 a2 a3 k
  have ih0 := laws_fits.mono_l k
  unfold laws_fits.f
  repeat' first
      | (with_reducible exact ih0 _ _ _ _ _)
      | (with_reducible exact LeO.refl _)
      | (with_reducible exact LeO.none _)
      | (with_reducible refine LeO.ite ?_ ?_)
      | (with_reducible refine LeO.bind ?_ (fun _ => ?_))
      | exact ih0 _ _ _ _ _
      | exact LeO.none _
      | refine LeO.ite ?_ ?_
      | refine LeO.bind ?_ (fun _ => ?_)
set_option maxHeartbeats 8000000 in
set_option maxRecDepth 100000 in
theorem laws_fits.calls (k : Nat) (A0 : Option Addr) (c0 : Nat) (l0 : List Int) (a1 : Int) (a2 : Int) (a3 : Int) (r : Bool) (w : World) (hr0 : Kd.C (Kd.int .i64) w A0 l0.length l0) (hc0 : l0.length ≤ c0) (h : laws_fits.f k l0 a1 a2 a3 = some r) :
    Calls Try.prog 13 #[.slice A0 l0.length c0, .int .i64 a1, .int .i64 a2, .int .i64 a3] w fun e w' => e = .returned (.bool r) ∧ Drawn0 w w' := by
  have HR0 := Aside0.mk hr0
  have HC0 := Aside0.mk hc0
  clear hr0 hc0
  have H : (laws_fits.l0 k l0 a1 a2 a3 0) = some r := h
  clear h
  have H' := Aside0.mk H
  clear H
  go_enter Try.func13, Try.ntmps13
  go_wp2
  go_loopg [9] k (fun kq v9 w' => ∃ (x9_1 : Int), v9 = .int .i64 x9_1 ∧ Aside0 (laws_fits.l0 kq l0 a1 a2 a3 x9_1 = some r) ∧ Aside0 (kq ≤ k) ∧ Drawn0 w w')
  case atStart => exact ⟨(0), (by first | rfl | (simp; done) | (simp [*]; done)), H', ⟨Nat.le_refl _⟩, by repeat (first | exact Drawn0.refl _ | apply Drawn0.step)⟩
  case round =>
    clear H'
    try clear c1
    try clear p2
    obtain ⟨x9_1, rfl, HA, HK1, ⟨m1, rfl⟩⟩ := hrel
    cases gk with
    | zero => exact absurd HA.out (by simp [laws_fits.l0])
    | succ k1 =>
      have H := HA.out
      clear HA
      simp only [laws_fits.l0] at H
      by_cases c5 : x9_1 < (l0.length : Int)
      · rw [if_pos c5] at H
        have c5b0 : decide (x9_1 < (l0.length : Int)) = true := decide_eq_true c5
        clear c5
        by_cases c6 : 0 ≤ x9_1
        · rw [if_pos c6] at H
          have c6b0 : decide (0 ≤ x9_1) = true := decide_eq_true c6
          clear c6
          by_cases c7 : (rd l0 x9_1) < a2
          · rw [if_pos c7] at H
            have c7b0 : decide ((rd l0 x9_1) < a2) = true := decide_eq_true c7
            clear c7
            obtain rfl := Option.some.inj H
            have p101 : 0 ≤ (x9_1 : Int) := of_decide_eq_true (by first | (with_reducible assumption) | assumption)
            have q101 : x9_1 < (l0.length : Int) := of_decide_eq_true (by first | (with_reducible assumption) | assumption)
            obtain ⟨ad101, e101, hx101_0⟩ := Kd.at_int HR0.out x9_1 p101 q101
            cases e101
            replace p101 := eq_true p101
            replace q101 := eq_true q101
            go_wp2
            go_ret
            exact ⟨by first | rfl | (simp; done) | (simp [*]; done), by repeat (first | exact Drawn0.refl _ | apply Drawn0.step)⟩
          · rw [if_neg c7] at H
            have c7b0 : decide ((rd l0 x9_1) < a2) = false := decide_eq_false c7
            clear c7
            by_cases c8 : (rd l0 x9_1) > a3
            · rw [if_pos c8] at H
              have c8b0 : decide (a3 < (rd l0 x9_1)) = true := decide_eq_true c8
              clear c8
              obtain rfl := Option.some.inj H
              have p101 : 0 ≤ (x9_1 : Int) := of_decide_eq_true (by first | (with_reducible assumption) | assumption)
              have q101 : x9_1 < (l0.length : Int) := of_decide_eq_true (by first | (with_reducible assumption) | assumption)
              obtain ⟨ad101, e101, hx101_0⟩ := Kd.at_int HR0.out x9_1 p101 q101
              cases e101
              replace p101 := eq_true p101
              replace q101 := eq_true q101
              have p102 : 0 ≤ (x9_1 : Int) := of_decide_eq_true (by first | (with_reducible assumption) | assumption)
              have q102 : x9_1 < (l0.length : Int) := of_decide_eq_true (by first | (with_reducible assumption) | assumption)
              obtain ⟨ad102, e102, hx102_0⟩ := Kd.at_int HR0.out x9_1 p102 q102
              obtain rfl : ad101 = ad102 := (by injection e102)
              replace p102 := eq_true p102
              replace q102 := eq_true q102
              go_wp2
              go_ret
              exact ⟨by first | rfl | (simp; done) | (simp [*]; done), by repeat (first | exact Drawn0.refl _ | apply Drawn0.step)⟩
            · rw [if_neg c8] at H
              have c8b0 : decide (a3 < (rd l0 x9_1)) = false := decide_eq_false c8
              clear c8
              have H' := Aside0.mk H
              clear H
              have p101 : 0 ≤ (x9_1 : Int) := of_decide_eq_true (by first | (with_reducible assumption) | assumption)
              have q101 : x9_1 < (l0.length : Int) := of_decide_eq_true (by first | (with_reducible assumption) | assumption)
              obtain ⟨ad101, e101, hx101_0⟩ := Kd.at_int HR0.out x9_1 p101 q101
              cases e101
              replace p101 := eq_true p101
              replace q101 := eq_true q101
              have p102 : 0 ≤ (x9_1 : Int) := of_decide_eq_true (by first | (with_reducible assumption) | assumption)
              have q102 : x9_1 < (l0.length : Int) := of_decide_eq_true (by first | (with_reducible assumption) | assumption)
              obtain ⟨ad102, e102, hx102_0⟩ := Kd.at_int HR0.out x9_1 p102 q102
              obtain rfl : ad101 = ad102 := (by injection e102)
              replace p102 := eq_true p102
              replace q102 := eq_true q102
              go_wp2
              go_roundg k1
              case measure => have := HK1.out; omega
              case rel => exact ⟨(wrap64 (x9_1 + 1)), (by first | rfl | (simp; done) | (simp [*]; done)), H', ⟨by have := HK1.out; omega⟩, by repeat (first | exact Drawn0.refl _ | apply Drawn0.step)⟩
        · rw [if_neg c6] at H
          exact absurd H (by simp)
      · rw [if_neg c5] at H
        have c5b0 : decide (x9_1 < (l0.length : Int)) = false := decide_eq_false c5
        clear c5
        obtain rfl := Option.some.inj H
        go_wp2
        go_ret
        exact ⟨by first | rfl | (simp; done) | (simp [*]; done), by repeat (first | exact Drawn0.refl _ | apply Drawn0.step)⟩

-- GIVEN: impl_Grown

/-! ### laws_FnGrownEven: function 5 -/
mutual
def laws_FnGrownEven.j0 : Nat → List Int → Int → Int → Bool → Option (Bool)
  | 0, _, _, _, _ => none
  | k + 1, x0, x1, x2, x37 => if x37 = true then (some true) else ((impl_Grown.f x0 ([] : List Int) x1 x2).bind fun t104 => (if (t104.length : Int) = (x0.length : Int) then (laws_FnGrownEven.l0 k x0 x1 x2 t104 0 0) else (some false)))
def laws_FnGrownEven.l0 : Nat → List Int → Int → Int → List Int → Int → Int → Option (Bool)
  | 0, _, _, _, _, _, _ => none
  | k + 1, x0, x1, x2, x7, x8, x9 => if x9 < (x7.length : Int) then (if 0 ≤ x9 then (if x9 < (x0.length : Int) then (if 0 ≤ (wrap64 ((x7.length : Int) - 1)) then (if (wrap64 ((x7.length : Int) - 1)) < (x7.length : Int) then (if (wrap64 ((x7.length : Int) - 1)) < (x0.length : Int) then (if (wrap64 ((rd x7 x9) - (rd x0 x9))) < (wrap64 ((rd x7 (wrap64 ((x7.length : Int) - 1))) - (rd x0 (wrap64 ((x7.length : Int) - 1))))) then (some false) else (if 0 < (x7.length : Int) then (if 0 < (x0.length : Int) then (if (wrap64 ((rd x7 x9) - (rd x0 x9))) > (wrap64 ((rd x7 0) - (rd x0 0))) then (some false) else (if (wrap64 ((rd x7 0) - (rd x0 0))) > (wrap64 ((wrap64 ((rd x7 (wrap64 ((x7.length : Int) - 1))) - (rd x0 (wrap64 ((x7.length : Int) - 1))))) + 1)) then (some false) else (laws_FnGrownEven.l0 k x0 x1 x2 x7 (wrap64 (x8 + (wrap64 ((rd x7 x9) - (rd x0 x9))))) (wrap64 (x9 + 1))))) else (none)) else (none))) else (none)) else (none)) else (none)) else (none)) else (none)) else (some (x8 == (mx 0 (wrap64 (x2 - x1)))))
end
def laws_FnGrownEven.f (k : Nat) (l0 : List Int) (a1 : Int) (a2 : Int) : Option (Bool) := if (l0.length : Int) > 2147483647 then (some true) else ((laws_fits.f k l0 40 0 300).bind fun t103 => (if t103 = true then (if (l0.length : Int) = 0 then (laws_FnGrownEven.j0 k l0 a1 a2 true) else (if a1 < 0 then (laws_FnGrownEven.j0 k l0 a1 a2 true) else (if a1 > 3000 then (laws_FnGrownEven.j0 k l0 a1 a2 true) else (if a2 < 0 then (laws_FnGrownEven.j0 k l0 a1 a2 true) else (laws_FnGrownEven.j0 k l0 a1 a2 (decide (a2 > 3000))))))) else (laws_FnGrownEven.j0 k l0 a1 a2 true)))
theorem laws_FnGrownEven.mono_l : ∀ k, (∀ y0 y1 y2 y3, LeO (laws_FnGrownEven.j0 k y0 y1 y2 y3) (laws_FnGrownEven.j0 (k + 1) y0 y1 y2 y3)) ∧ (∀ y0 y1 y2 y3 y4 y5, LeO (laws_FnGrownEven.l0 k y0 y1 y2 y3 y4 y5) (laws_FnGrownEven.l0 (k + 1) y0 y1 y2 y3 y4 y5))
  | 0 => ⟨fun _ _ _ _ r h => by simp [laws_FnGrownEven.j0] at h, fun _ _ _ _ _ _ r h => by simp [laws_FnGrownEven.l0] at h⟩
  | k + 1 => by
    obtain ⟨ih0, ih1⟩ := laws_FnGrownEven.mono_l k
    refine ⟨?_, ?_⟩
    · intro y0 y1 y2 y3
      unfold laws_FnGrownEven.j0
      repeat' first
      | (with_reducible exact ih0 _ _ _ _)
      | (with_reducible exact ih1 _ _ _ _ _ _)
      | (with_reducible exact laws_fits.mono _ _ _ _ _)
      | (with_reducible exact LeO.refl _)
      | (with_reducible exact LeO.none _)
      | (with_reducible refine LeO.ite ?_ ?_)
      | (with_reducible refine LeO.bind ?_ (fun _ => ?_))
      | exact ih0 _ _ _ _
      | exact ih1 _ _ _ _ _ _
      | exact laws_fits.mono _ _ _ _ _
      | exact LeO.none _
      | refine LeO.ite ?_ ?_
      | refine LeO.bind ?_ (fun _ => ?_)
    · intro y0 y1 y2 y3 y4 y5
      unfold laws_FnGrownEven.l0
      repeat' first
      | (with_reducible exact ih0 _ _ _ _)
      | (with_reducible exact ih1 _ _ _ _ _ _)
      | (with_reducible exact laws_fits.mono _ _ _ _ _)
      | (with_reducible exact LeO.refl _)
      | (with_reducible exact LeO.none _)
      | (with_reducible refine LeO.ite ?_ ?_)
      | (with_reducible refine LeO.bind ?_ (fun _ => ?_))
      | exact ih0 _ _ _ _
      | exact ih1 _ _ _ _ _ _
      | exact laws_fits.mono _ _ _ _ _
      | exact LeO.none _
      | refine LeO.ite ?_ ?_
      | refine LeO.bind ?_ (fun _ => ?_)
theorem laws_FnGrownEven.mono : ∀ a0 a1 a2 k, LeO (laws_FnGrownEven.f k a0 a1 a2) (laws_FnGrownEven.f (k + 1) a0 a1 a2) := by
  intro a0 a1 a2 k
  obtain ⟨ih0, ih1⟩ := laws_FnGrownEven.mono_l k
  unfold laws_FnGrownEven.f
  repeat' first
      | (with_reducible exact ih0 _ _ _ _)
      | (with_reducible exact ih1 _ _ _ _ _ _)
      | (with_reducible exact laws_fits.mono _ _ _ _ _)
      | (with_reducible exact LeO.refl _)
      | (with_reducible exact LeO.none _)
      | (with_reducible refine LeO.ite ?_ ?_)
      | (with_reducible refine LeO.bind ?_ (fun _ => ?_))
      | exact ih0 _ _ _ _
      | exact ih1 _ _ _ _ _ _
      | exact laws_fits.mono _ _ _ _ _
      | exact LeO.none _
      | refine LeO.ite ?_ ?_
      | refine LeO.bind ?_ (fun _ => ?_)
set_option maxHeartbeats 8000000 in
set_option maxRecDepth 100000 in
theorem laws_FnGrownEven.calls (k : Nat) (A0 : Option Addr) (c0 : Nat) (l0 : List Int) (a1 : Int) (a2 : Int) (r : Bool) (w : World) (hr0 : Kd.C (Kd.int .i64) w A0 l0.length l0) (hc0 : l0.length ≤ c0) (h : laws_FnGrownEven.f k l0 a1 a2 = some r) :
    Calls Try.prog 5 #[.slice A0 l0.length c0, .int .i64 a1, .int .i64 a2] w fun e w' => e = .returned (.bool r) ∧ Below w.heap.size w w' := by
  have HR0 := Aside0.mk hr0
  have HC0 := Aside0.mk hc0
  clear hr0 hc0
  have HB := Aside0.mk (Below.refl w.heap.size w)
  have H : (if (l0.length : Int) > 2147483647 then (some true) else ((laws_fits.f k l0 40 0 300).bind fun t103 => (if t103 = true then (if (l0.length : Int) = 0 then (laws_FnGrownEven.j0 k l0 a1 a2 true) else (if a1 < 0 then (laws_FnGrownEven.j0 k l0 a1 a2 true) else (if a1 > 3000 then (laws_FnGrownEven.j0 k l0 a1 a2 true) else (if a2 < 0 then (laws_FnGrownEven.j0 k l0 a1 a2 true) else (laws_FnGrownEven.j0 k l0 a1 a2 (decide (a2 > 3000))))))) else (laws_FnGrownEven.j0 k l0 a1 a2 true)))) = some r := h
  clear h
  by_cases c4 : (l0.length : Int) > 2147483647
  · rw [if_pos c4] at H
    have c4b0 : decide (2147483647 < (l0.length : Int)) = true := decide_eq_true c4
    have c4b1 : decide (2147483647 < l0.length) = true := decide_eq_true (by omega)
    clear c4
    obtain rfl := Option.some.inj H
    go_enter Try.func5, Try.ntmps5
    go_wp2
    repeat (go_quiet (fail); try go_wp2)
    go_ret
    exact ⟨by first | rfl | (simp [errW_none, errW_some] <;> rfl) | (simp [*, errW_none, errW_some] <;> rfl), by repeat (first | (with_reducible first | exact HB.out | apply below_alloc | apply pw_below_drewN | apply below_drew1) | exact HB.out)⟩
  · rw [if_neg c4] at H
    have c4b0 : decide (2147483647 < (l0.length : Int)) = false := decide_eq_false c4
    have c4b1 : decide (2147483647 < l0.length) = false := decide_eq_false (by omega)
    clear c4
    have HC5 := Aside0.mk H
    clear H
    go_enter Try.func5, Try.ntmps5
    go_upto_region 3 with (fail)
    repeat (go_quiet (fail); go_upto_region 3 with (fail))
    go_cut [37] (fun v37 wc => ∃ (kq : Nat) (x37_4 : Bool), v37 = .bool x37_4 ∧ Aside0 (laws_FnGrownEven.j0 kq l0 a1 a2 x37_4 = some r) ∧ Aside0 (kq ≤ k) ∧ Aside0 (Below w.heap.size w wc))
    case first =>
      have H := HC5.out
      clear HC5
      replace H := Option.bind_eq_some_iff.mp H
      obtain ⟨t103, A60, H⟩ := H
      replace H : (if t103 = true then (if (l0.length : Int) = 0 then (laws_FnGrownEven.j0 k l0 a1 a2 true) else (if a1 < 0 then (laws_FnGrownEven.j0 k l0 a1 a2 true) else (if a1 > 3000 then (laws_FnGrownEven.j0 k l0 a1 a2 true) else (if a2 < 0 then (laws_FnGrownEven.j0 k l0 a1 a2 true) else (laws_FnGrownEven.j0 k l0 a1 a2 (decide (a2 > 3000))))))) else (laws_FnGrownEven.j0 k l0 a1 a2 true)) = some r := H
      have A6 := Aside0.mk A60
      clear A60
      by_cases c7 : t103 = true
      · subst c7
        have H1 : (if (l0.length : Int) = 0 then (laws_FnGrownEven.j0 k l0 a1 a2 true) else (if a1 < 0 then (laws_FnGrownEven.j0 k l0 a1 a2 true) else (if a1 > 3000 then (laws_FnGrownEven.j0 k l0 a1 a2 true) else (if a2 < 0 then (laws_FnGrownEven.j0 k l0 a1 a2 true) else (laws_FnGrownEven.j0 k l0 a1 a2 (decide (a2 > 3000))))))) = some r := by rw [if_pos rfl] at H; exact H
        clear H
        have H := H1
        clear H1
        by_cases c8 : (l0.length : Int) = 0
        · rw [if_pos c8] at H
          have c8b0 : ((l0.length : Int) == 0) = true := beq_iff_eq.mpr c8
          have c8b1 : ((l0.length : Int) != 0) = false := bne_eq_false_iff_eq.mpr c8
          clear c8
          (first | rw [c8b0] | (simp only [i64_w, i32_w]; rw [c8b0]) | skip)
          have H' := Aside0.mk H
          clear H
          go_wp2_with (first | (go_at_call 13; (with_reducible refine (laws_fits.calls k _ _ l0 40 0 300 true _ ?side1 ?side2 A6.out).mono ?_); (case side1 => repeat (first | exact (Kd.C_below HR0.out HB.out) | (with_reducible refine Kd.C_alloc ?_ _) | (with_reducible refine Kd.C_drewN ?_ _) | (with_reducible refine Kd.C_drew ?_))); (case side2 => exact HC0.out); rintro e w' ⟨rfl, ⟨nd, rfl⟩⟩; (try first | exact ⟨rfl, _, World.drewN_drewN _ _ _⟩ | exact ⟨rfl, _, Eq.trans (World.drewN_drewN _ _ _) (congrArg (World.drewN _) (Nat.add_assoc _ _ _))⟩)))
          repeat (go_quiet (first | (go_at_call 13; (with_reducible refine (laws_fits.calls k _ _ l0 40 0 300 true _ ?side1 ?side2 A6.out).mono ?_); (case side1 => repeat (first | exact (Kd.C_below HR0.out HB.out) | (with_reducible refine Kd.C_alloc ?_ _) | (with_reducible refine Kd.C_drewN ?_ _) | (with_reducible refine Kd.C_drew ?_))); (case side2 => exact HC0.out); rintro e w' ⟨rfl, ⟨nd, rfl⟩⟩; (try first | exact ⟨rfl, _, World.drewN_drewN _ _ _⟩ | exact ⟨rfl, _, Eq.trans (World.drewN_drewN _ _ _) (congrArg (World.drewN _) (Nat.add_assoc _ _ _))⟩))); try go_wp2_with (first | (go_at_call 13; (with_reducible refine (laws_fits.calls k _ _ l0 40 0 300 true _ ?side1 ?side2 A6.out).mono ?_); (case side1 => repeat (first | exact (Kd.C_below HR0.out HB.out) | (with_reducible refine Kd.C_alloc ?_ _) | (with_reducible refine Kd.C_drewN ?_ _) | (with_reducible refine Kd.C_drew ?_))); (case side2 => exact HC0.out); rintro e w' ⟨rfl, ⟨nd, rfl⟩⟩; (try first | exact ⟨rfl, _, World.drewN_drewN _ _ _⟩ | exact ⟨rfl, _, Eq.trans (World.drewN_drewN _ _ _) (congrArg (World.drewN _) (Nat.add_assoc _ _ _))⟩))))
          go_meet
          case rel => exact ⟨_, (true), (by first | rfl | (simp; done) | (simp [*]; done)), H', ⟨by first | omega | exact Nat.le_refl _⟩, ⟨by repeat (first | (with_reducible first | exact HB.out | apply below_alloc | apply pw_below_drewN | apply below_drew1) | exact HB.out)⟩⟩
        · rw [if_neg c8] at H
          have c8b0 : ((l0.length : Int) == 0) = false := beq_eq_false_iff_ne.mpr c8
          have c8b1 : ((l0.length : Int) != 0) = true := bne_iff_ne.mpr c8
          have c8b2 : ¬ (l0 = []) := fun h_ => c8 (by rw [h_]; rfl)
          (first | rw [c8b0] | (simp only [i64_w, i32_w]; rw [c8b0]) | skip)
          by_cases c9 : a1 < 0
          · rw [if_pos c9] at H
            have c9b0 : decide (a1 < 0) = true := decide_eq_true c9
            clear c9
            have H' := Aside0.mk H
            clear H
            go_wp2_with (first | (go_at_call 13; (with_reducible refine (laws_fits.calls k _ _ l0 40 0 300 true _ ?side1 ?side2 A6.out).mono ?_); (case side1 => repeat (first | exact (Kd.C_below HR0.out HB.out) | (with_reducible refine Kd.C_alloc ?_ _) | (with_reducible refine Kd.C_drewN ?_ _) | (with_reducible refine Kd.C_drew ?_))); (case side2 => exact HC0.out); rintro e w' ⟨rfl, ⟨nd, rfl⟩⟩; (try first | exact ⟨rfl, _, World.drewN_drewN _ _ _⟩ | exact ⟨rfl, _, Eq.trans (World.drewN_drewN _ _ _) (congrArg (World.drewN _) (Nat.add_assoc _ _ _))⟩)))
            repeat (go_quiet (first | (go_at_call 13; (with_reducible refine (laws_fits.calls k _ _ l0 40 0 300 true _ ?side1 ?side2 A6.out).mono ?_); (case side1 => repeat (first | exact (Kd.C_below HR0.out HB.out) | (with_reducible refine Kd.C_alloc ?_ _) | (with_reducible refine Kd.C_drewN ?_ _) | (with_reducible refine Kd.C_drew ?_))); (case side2 => exact HC0.out); rintro e w' ⟨rfl, ⟨nd, rfl⟩⟩; (try first | exact ⟨rfl, _, World.drewN_drewN _ _ _⟩ | exact ⟨rfl, _, Eq.trans (World.drewN_drewN _ _ _) (congrArg (World.drewN _) (Nat.add_assoc _ _ _))⟩))); try go_wp2_with (first | (go_at_call 13; (with_reducible refine (laws_fits.calls k _ _ l0 40 0 300 true _ ?side1 ?side2 A6.out).mono ?_); (case side1 => repeat (first | exact (Kd.C_below HR0.out HB.out) | (with_reducible refine Kd.C_alloc ?_ _) | (with_reducible refine Kd.C_drewN ?_ _) | (with_reducible refine Kd.C_drew ?_))); (case side2 => exact HC0.out); rintro e w' ⟨rfl, ⟨nd, rfl⟩⟩; (try first | exact ⟨rfl, _, World.drewN_drewN _ _ _⟩ | exact ⟨rfl, _, Eq.trans (World.drewN_drewN _ _ _) (congrArg (World.drewN _) (Nat.add_assoc _ _ _))⟩))))
            go_meet
            case rel => exact ⟨_, (true), (by first | rfl | (simp; done) | (simp [*]; done)), H', ⟨by first | omega | exact Nat.le_refl _⟩, ⟨by repeat (first | (with_reducible first | exact HB.out | apply below_alloc | apply pw_below_drewN | apply below_drew1) | exact HB.out)⟩⟩
          · rw [if_neg c9] at H
            have c9b0 : decide (a1 < 0) = false := decide_eq_false c9
            clear c9
            by_cases c10 : a1 > 3000
            · rw [if_pos c10] at H
              have c10b0 : decide (3000 < a1) = true := decide_eq_true c10
              clear c10
              have H' := Aside0.mk H
              clear H
              go_wp2_with (first | (go_at_call 13; (with_reducible refine (laws_fits.calls k _ _ l0 40 0 300 true _ ?side1 ?side2 A6.out).mono ?_); (case side1 => repeat (first | exact (Kd.C_below HR0.out HB.out) | (with_reducible refine Kd.C_alloc ?_ _) | (with_reducible refine Kd.C_drewN ?_ _) | (with_reducible refine Kd.C_drew ?_))); (case side2 => exact HC0.out); rintro e w' ⟨rfl, ⟨nd, rfl⟩⟩; (try first | exact ⟨rfl, _, World.drewN_drewN _ _ _⟩ | exact ⟨rfl, _, Eq.trans (World.drewN_drewN _ _ _) (congrArg (World.drewN _) (Nat.add_assoc _ _ _))⟩)))
              repeat (go_quiet (first | (go_at_call 13; (with_reducible refine (laws_fits.calls k _ _ l0 40 0 300 true _ ?side1 ?side2 A6.out).mono ?_); (case side1 => repeat (first | exact (Kd.C_below HR0.out HB.out) | (with_reducible refine Kd.C_alloc ?_ _) | (with_reducible refine Kd.C_drewN ?_ _) | (with_reducible refine Kd.C_drew ?_))); (case side2 => exact HC0.out); rintro e w' ⟨rfl, ⟨nd, rfl⟩⟩; (try first | exact ⟨rfl, _, World.drewN_drewN _ _ _⟩ | exact ⟨rfl, _, Eq.trans (World.drewN_drewN _ _ _) (congrArg (World.drewN _) (Nat.add_assoc _ _ _))⟩))); try go_wp2_with (first | (go_at_call 13; (with_reducible refine (laws_fits.calls k _ _ l0 40 0 300 true _ ?side1 ?side2 A6.out).mono ?_); (case side1 => repeat (first | exact (Kd.C_below HR0.out HB.out) | (with_reducible refine Kd.C_alloc ?_ _) | (with_reducible refine Kd.C_drewN ?_ _) | (with_reducible refine Kd.C_drew ?_))); (case side2 => exact HC0.out); rintro e w' ⟨rfl, ⟨nd, rfl⟩⟩; (try first | exact ⟨rfl, _, World.drewN_drewN _ _ _⟩ | exact ⟨rfl, _, Eq.trans (World.drewN_drewN _ _ _) (congrArg (World.drewN _) (Nat.add_assoc _ _ _))⟩))))
              go_meet
              case rel => exact ⟨_, (true), (by first | rfl | (simp; done) | (simp [*]; done)), H', ⟨by first | omega | exact Nat.le_refl _⟩, ⟨by repeat (first | (with_reducible first | exact HB.out | apply below_alloc | apply pw_below_drewN | apply below_drew1) | exact HB.out)⟩⟩
            · rw [if_neg c10] at H
              have c10b0 : decide (3000 < a1) = false := decide_eq_false c10
              clear c10
              by_cases c11 : a2 < 0
              · rw [if_pos c11] at H
                have c11b0 : decide (a2 < 0) = true := decide_eq_true c11
                clear c11
                have H' := Aside0.mk H
                clear H
                go_wp2_with (first | (go_at_call 13; (with_reducible refine (laws_fits.calls k _ _ l0 40 0 300 true _ ?side1 ?side2 A6.out).mono ?_); (case side1 => repeat (first | exact (Kd.C_below HR0.out HB.out) | (with_reducible refine Kd.C_alloc ?_ _) | (with_reducible refine Kd.C_drewN ?_ _) | (with_reducible refine Kd.C_drew ?_))); (case side2 => exact HC0.out); rintro e w' ⟨rfl, ⟨nd, rfl⟩⟩; (try first | exact ⟨rfl, _, World.drewN_drewN _ _ _⟩ | exact ⟨rfl, _, Eq.trans (World.drewN_drewN _ _ _) (congrArg (World.drewN _) (Nat.add_assoc _ _ _))⟩)))
                repeat (go_quiet (first | (go_at_call 13; (with_reducible refine (laws_fits.calls k _ _ l0 40 0 300 true _ ?side1 ?side2 A6.out).mono ?_); (case side1 => repeat (first | exact (Kd.C_below HR0.out HB.out) | (with_reducible refine Kd.C_alloc ?_ _) | (with_reducible refine Kd.C_drewN ?_ _) | (with_reducible refine Kd.C_drew ?_))); (case side2 => exact HC0.out); rintro e w' ⟨rfl, ⟨nd, rfl⟩⟩; (try first | exact ⟨rfl, _, World.drewN_drewN _ _ _⟩ | exact ⟨rfl, _, Eq.trans (World.drewN_drewN _ _ _) (congrArg (World.drewN _) (Nat.add_assoc _ _ _))⟩))); try go_wp2_with (first | (go_at_call 13; (with_reducible refine (laws_fits.calls k _ _ l0 40 0 300 true _ ?side1 ?side2 A6.out).mono ?_); (case side1 => repeat (first | exact (Kd.C_below HR0.out HB.out) | (with_reducible refine Kd.C_alloc ?_ _) | (with_reducible refine Kd.C_drewN ?_ _) | (with_reducible refine Kd.C_drew ?_))); (case side2 => exact HC0.out); rintro e w' ⟨rfl, ⟨nd, rfl⟩⟩; (try first | exact ⟨rfl, _, World.drewN_drewN _ _ _⟩ | exact ⟨rfl, _, Eq.trans (World.drewN_drewN _ _ _) (congrArg (World.drewN _) (Nat.add_assoc _ _ _))⟩))))
                go_meet
                case rel => exact ⟨_, (true), (by first | rfl | (simp; done) | (simp [*]; done)), H', ⟨by first | omega | exact Nat.le_refl _⟩, ⟨by repeat (first | (with_reducible first | exact HB.out | apply below_alloc | apply pw_below_drewN | apply below_drew1) | exact HB.out)⟩⟩
              · rw [if_neg c11] at H
                have c11b0 : decide (a2 < 0) = false := decide_eq_false c11
                clear c11
                have H' := Aside0.mk H
                clear H
                go_wp2_with (first | (go_at_call 13; (with_reducible refine (laws_fits.calls k _ _ l0 40 0 300 true _ ?side1 ?side2 A6.out).mono ?_); (case side1 => repeat (first | exact (Kd.C_below HR0.out HB.out) | (with_reducible refine Kd.C_alloc ?_ _) | (with_reducible refine Kd.C_drewN ?_ _) | (with_reducible refine Kd.C_drew ?_))); (case side2 => exact HC0.out); rintro e w' ⟨rfl, ⟨nd, rfl⟩⟩; (try first | exact ⟨rfl, _, World.drewN_drewN _ _ _⟩ | exact ⟨rfl, _, Eq.trans (World.drewN_drewN _ _ _) (congrArg (World.drewN _) (Nat.add_assoc _ _ _))⟩)))
                repeat (go_quiet (first | (go_at_call 13; (with_reducible refine (laws_fits.calls k _ _ l0 40 0 300 true _ ?side1 ?side2 A6.out).mono ?_); (case side1 => repeat (first | exact (Kd.C_below HR0.out HB.out) | (with_reducible refine Kd.C_alloc ?_ _) | (with_reducible refine Kd.C_drewN ?_ _) | (with_reducible refine Kd.C_drew ?_))); (case side2 => exact HC0.out); rintro e w' ⟨rfl, ⟨nd, rfl⟩⟩; (try first | exact ⟨rfl, _, World.drewN_drewN _ _ _⟩ | exact ⟨rfl, _, Eq.trans (World.drewN_drewN _ _ _) (congrArg (World.drewN _) (Nat.add_assoc _ _ _))⟩))); try go_wp2_with (first | (go_at_call 13; (with_reducible refine (laws_fits.calls k _ _ l0 40 0 300 true _ ?side1 ?side2 A6.out).mono ?_); (case side1 => repeat (first | exact (Kd.C_below HR0.out HB.out) | (with_reducible refine Kd.C_alloc ?_ _) | (with_reducible refine Kd.C_drewN ?_ _) | (with_reducible refine Kd.C_drew ?_))); (case side2 => exact HC0.out); rintro e w' ⟨rfl, ⟨nd, rfl⟩⟩; (try first | exact ⟨rfl, _, World.drewN_drewN _ _ _⟩ | exact ⟨rfl, _, Eq.trans (World.drewN_drewN _ _ _) (congrArg (World.drewN _) (Nat.add_assoc _ _ _))⟩))))
                go_meet
                case rel => exact ⟨_, (decide (a2 > 3000)), (by first | rfl | (simp; done) | (simp [*]; done)), H', ⟨by first | omega | exact Nat.le_refl _⟩, ⟨by repeat (first | (with_reducible first | exact HB.out | apply below_alloc | apply pw_below_drewN | apply below_drew1) | exact HB.out)⟩⟩
      · replace c7 := Bool.eq_false_iff.mpr c7
        subst c7
        have H1 : (laws_FnGrownEven.j0 k l0 a1 a2 true) = some r := by rw [if_neg (show ¬ (false = true) by decide)] at H; exact H
        clear H
        have H := H1
        clear H1
        have H' := Aside0.mk H
        clear H
        go_wp2_with (first | (go_at_call 13; (with_reducible refine (laws_fits.calls k _ _ l0 40 0 300 false _ ?side1 ?side2 A6.out).mono ?_); (case side1 => repeat (first | exact (Kd.C_below HR0.out HB.out) | (with_reducible refine Kd.C_alloc ?_ _) | (with_reducible refine Kd.C_drewN ?_ _) | (with_reducible refine Kd.C_drew ?_))); (case side2 => exact HC0.out); rintro e w' ⟨rfl, ⟨nd, rfl⟩⟩; (try first | exact ⟨rfl, _, World.drewN_drewN _ _ _⟩ | exact ⟨rfl, _, Eq.trans (World.drewN_drewN _ _ _) (congrArg (World.drewN _) (Nat.add_assoc _ _ _))⟩)))
        repeat (go_quiet (first | (go_at_call 13; (with_reducible refine (laws_fits.calls k _ _ l0 40 0 300 false _ ?side1 ?side2 A6.out).mono ?_); (case side1 => repeat (first | exact (Kd.C_below HR0.out HB.out) | (with_reducible refine Kd.C_alloc ?_ _) | (with_reducible refine Kd.C_drewN ?_ _) | (with_reducible refine Kd.C_drew ?_))); (case side2 => exact HC0.out); rintro e w' ⟨rfl, ⟨nd, rfl⟩⟩; (try first | exact ⟨rfl, _, World.drewN_drewN _ _ _⟩ | exact ⟨rfl, _, Eq.trans (World.drewN_drewN _ _ _) (congrArg (World.drewN _) (Nat.add_assoc _ _ _))⟩))); try go_wp2_with (first | (go_at_call 13; (with_reducible refine (laws_fits.calls k _ _ l0 40 0 300 false _ ?side1 ?side2 A6.out).mono ?_); (case side1 => repeat (first | exact (Kd.C_below HR0.out HB.out) | (with_reducible refine Kd.C_alloc ?_ _) | (with_reducible refine Kd.C_drewN ?_ _) | (with_reducible refine Kd.C_drew ?_))); (case side2 => exact HC0.out); rintro e w' ⟨rfl, ⟨nd, rfl⟩⟩; (try first | exact ⟨rfl, _, World.drewN_drewN _ _ _⟩ | exact ⟨rfl, _, Eq.trans (World.drewN_drewN _ _ _) (congrArg (World.drewN _) (Nat.add_assoc _ _ _))⟩))))
        go_meet
        case rel => exact ⟨_, (true), (by first | rfl | (simp; done) | (simp [*]; done)), H', ⟨by first | omega | exact Nat.le_refl _⟩, ⟨by repeat (first | (with_reducible first | exact HB.out | apply below_alloc | apply pw_below_drewN | apply below_drew1) | exact HB.out)⟩⟩
    case rest =>
      clear HC5
      try clear c1
      try clear p2
      try clear c4
      try clear c4b0
      try clear c4b1
      try clear c5
      try clear c7
      try clear c8
      try clear c8b0
      try clear c8b1
      try clear c8b2
      try clear c9
      try clear c9b0
      try clear c10
      try clear c10b0
      try clear c11
      try clear c11b0
      obtain ⟨kq, x37_4, rfl, HA, HJ4, HB⟩ := hcut
      cases kq with
      | zero => exact absurd HA.out (by simp [laws_FnGrownEven.j0])
      | succ kj4 =>
        have H := HA.out
        clear HA
        simp only [laws_FnGrownEven.j0] at H
        by_cases c12 : x37_4 = true
        · subst c12
          have H1 : (some true) = some r := by rw [if_pos rfl] at H; exact H
          clear H
          have H := H1
          clear H1
          obtain rfl := Option.some.inj H
          go_wp2
          repeat (go_quiet (fail); try go_wp2)
          go_ret
          exact ⟨by first | rfl | (simp [errW_none, errW_some] <;> rfl) | (simp [*, errW_none, errW_some] <;> rfl), by repeat (first | (with_reducible first | exact HB.out | apply below_alloc | apply pw_below_drewN | apply below_drew1) | exact HB.out)⟩
        · replace c12 := Bool.eq_false_iff.mpr c12
          subst c12
          have H1 : ((impl_Grown.f l0 ([] : List Int) a1 a2).bind fun t104 => (if (t104.length : Int) = (l0.length : Int) then (laws_FnGrownEven.l0 kj4 l0 a1 a2 t104 0 0) else (some false))) = some r := by rw [if_neg (show ¬ (false = true) by decide)] at H; exact H
          clear H
          have H := H1
          clear H1
          replace H := Option.bind_eq_some_iff.mp H
          obtain ⟨t104, A130, H⟩ := H
          replace H : (if (t104.length : Int) = (l0.length : Int) then (laws_FnGrownEven.l0 kj4 l0 a1 a2 t104 0 0) else (some false)) = some r := H
          have A13 := Aside0.mk A130
          clear A130
          by_cases c14 : (t104.length : Int) = (l0.length : Int)
          · rw [if_pos c14] at H
            have c14b0 : ((t104.length : Int) == (l0.length : Int)) = true := beq_iff_eq.mpr c14
            have c14b1 : ((t104.length : Int) != (l0.length : Int)) = false := bne_eq_false_iff_eq.mpr c14
            have c14b2 : (t104.length == l0.length) = true := by first | simpa using c14 | (simp at c14 ⊢; omega)
            clear c14
            have H' := Aside0.mk H
            clear H
            go_wp2_with (first | (go_at_call 14; (refine (impl_Grown.calls _ _ l0 _ _ ([] : List Int) a1 a2 t104 _ ?side1 ?side2 ?side3 ?side4 A13.out).mono ?_); (case side1 => repeat (first | exact (Kd.C_below HR0.out HB.out) | (with_reducible refine Kd.C_alloc ?_ _) | (with_reducible refine Kd.C_drewN ?_ _) | (with_reducible refine Kd.C_drew ?_))); (case side2 => exact HC0.out); (case side3 => exact Kd.C_nil _ _); (case side4 => exact Nat.le_refl _); rintro e w15 ⟨v105, rfl, ho0, hb⟩; have n0_ := Aside0.mk (Kd.R_lower ho0 (below_size (by repeat (first | (with_reducible first | exact HB.out | apply below_alloc | apply pw_below_drewN | apply below_drew1) | exact HB.out)))); have n1_ := Aside0.mk (below_step (by repeat (first | (with_reducible first | exact HB.out | apply below_alloc | apply pw_below_drewN | apply below_drew1) | exact HB.out)) hb); clear HB; have HO106 := n0_; have HB := n1_; clear n0_ n1_; (try clear hb); (try clear hb2); (try clear hk); (try clear hi); (try clear ho0); obtain ⟨Ao16, co16, eo16⟩ := Kd.R_slice HO106.out; subst eo16))
            repeat (go_quiet (first | (go_at_call 14; (refine (impl_Grown.calls _ _ l0 _ _ ([] : List Int) a1 a2 t104 _ ?side1 ?side2 ?side3 ?side4 A13.out).mono ?_); (case side1 => repeat (first | exact (Kd.C_below HR0.out HB.out) | (with_reducible refine Kd.C_alloc ?_ _) | (with_reducible refine Kd.C_drewN ?_ _) | (with_reducible refine Kd.C_drew ?_))); (case side2 => exact HC0.out); (case side3 => exact Kd.C_nil _ _); (case side4 => exact Nat.le_refl _); rintro e w15 ⟨v105, rfl, ho0, hb⟩; have n0_ := Aside0.mk (Kd.R_lower ho0 (below_size (by repeat (first | (with_reducible first | exact HB.out | apply below_alloc | apply pw_below_drewN | apply below_drew1) | exact HB.out)))); have n1_ := Aside0.mk (below_step (by repeat (first | (with_reducible first | exact HB.out | apply below_alloc | apply pw_below_drewN | apply below_drew1) | exact HB.out)) hb); clear HB; have HO106 := n0_; have HB := n1_; clear n0_ n1_; (try clear hb); (try clear hb2); (try clear hk); (try clear hi); (try clear ho0); obtain ⟨Ao16, co16, eo16⟩ := Kd.R_slice HO106.out; subst eo16)); try go_wp2_with (first | (go_at_call 14; (refine (impl_Grown.calls _ _ l0 _ _ ([] : List Int) a1 a2 t104 _ ?side1 ?side2 ?side3 ?side4 A13.out).mono ?_); (case side1 => repeat (first | exact (Kd.C_below HR0.out HB.out) | (with_reducible refine Kd.C_alloc ?_ _) | (with_reducible refine Kd.C_drewN ?_ _) | (with_reducible refine Kd.C_drew ?_))); (case side2 => exact HC0.out); (case side3 => exact Kd.C_nil _ _); (case side4 => exact Nat.le_refl _); rintro e w15 ⟨v105, rfl, ho0, hb⟩; have n0_ := Aside0.mk (Kd.R_lower ho0 (below_size (by repeat (first | (with_reducible first | exact HB.out | apply below_alloc | apply pw_below_drewN | apply below_drew1) | exact HB.out)))); have n1_ := Aside0.mk (below_step (by repeat (first | (with_reducible first | exact HB.out | apply below_alloc | apply pw_below_drewN | apply below_drew1) | exact HB.out)) hb); clear HB; have HO106 := n0_; have HB := n1_; clear n0_ n1_; (try clear hb); (try clear hb2); (try clear hk); (try clear hi); (try clear ho0); obtain ⟨Ao16, co16, eo16⟩ := Kd.R_slice HO106.out; subst eo16)))
            go_loopg [8, 9] kj4 (fun kq v8 v9 w' => ∃ (x8_2 : Int) (x9_2 : Int), v8 = .int .i64 x8_2 ∧ v9 = .int .i64 x9_2 ∧ Aside0 (laws_FnGrownEven.l0 kq l0 a1 a2 t104 x8_2 x9_2 = some r) ∧ Aside0 (kq ≤ kj4) ∧ Aside0 (Kd.R (Kd.int .i64) 3 w' w.heap.size (fun _ => True) (.slice Ao16 t104.length co16) t104) ∧ Aside0 (Below w.heap.size w w'))
            case atStart => exact ⟨(0), (0), (by first | rfl | (simp; done) | (simp [*]; done)), (by first | rfl | (simp; done) | (simp [*]; done)), H', ⟨Nat.le_refl _⟩, ⟨by (with_reducible repeat (first | apply Kd.R_alloc | apply Kd.R_drewN | apply Kd.R_drew)); exact HO106.out⟩, ⟨by repeat (first | (with_reducible first | exact HB.out | apply below_alloc | apply pw_below_drewN | apply below_drew1) | exact HB.out)⟩⟩
            case round =>
              clear H'
              try clear c1
              try clear p2
              try clear c4
              try clear c4b0
              try clear c4b1
              try clear c5
              try clear c7
              try clear c8
              try clear c8b0
              try clear c8b1
              try clear c8b2
              try clear c9
              try clear c9b0
              try clear c10
              try clear c10b0
              try clear c11
              try clear c11b0
              try clear c12
              try clear c14
              try clear c14b0
              try clear c14b1
              try clear c14b2
              try clear p2
              obtain ⟨x8_2, x9_2, rfl, rfl, HA, HK2, HO_7, HB⟩ := hrel
              cases gk with
              | zero => exact absurd HA.out (by simp [laws_FnGrownEven.l0])
              | succ k2 =>
                have H := HA.out
                clear HA
                simp only [laws_FnGrownEven.l0] at H
                by_cases c17 : x9_2 < (t104.length : Int)
                · rw [if_pos c17] at H
                  have c17b0 : decide (x9_2 < (t104.length : Int)) = true := decide_eq_true c17
                  clear c17
                  by_cases c18 : 0 ≤ x9_2
                  · rw [if_pos c18] at H
                    have c18b0 : decide (0 ≤ x9_2) = true := decide_eq_true c18
                    clear c18
                    by_cases c19 : x9_2 < (l0.length : Int)
                    · rw [if_pos c19] at H
                      have c19b0 : decide (x9_2 < (l0.length : Int)) = true := decide_eq_true c19
                      clear c19
                      obtain ⟨ji20, hji20⟩ : ∃ j_ : Int, (wrap64 ((t104.length : Int) - 1)) = j_ := ⟨_, rfl⟩
                      replace H : (if 0 ≤ (ji20) then (if (ji20) < (t104.length : Int) then (if (ji20) < (l0.length : Int) then (if (wrap64 ((rd t104 x9_2) - (rd l0 x9_2))) < (wrap64 ((rd t104 (ji20)) - (rd l0 (ji20)))) then (some false) else (if 0 < (t104.length : Int) then (if 0 < (l0.length : Int) then (if (wrap64 ((rd t104 x9_2) - (rd l0 x9_2))) > (wrap64 ((rd t104 0) - (rd l0 0))) then (some false) else (if (wrap64 ((rd t104 0) - (rd l0 0))) > (wrap64 ((wrap64 ((rd t104 (ji20)) - (rd l0 (ji20)))) + 1)) then (some false) else (laws_FnGrownEven.l0 k2 l0 a1 a2 t104 (wrap64 (x8_2 + (wrap64 ((rd t104 x9_2) - (rd l0 x9_2))))) (wrap64 (x9_2 + 1))))) else (none)) else (none))) else (none)) else (none)) else (none)) = some r := by first | (rw [hji20] at H; exact H) | (simp only [hji20] at H ⊢; exact H)
                      have hji20w : (IntKind.i64.wrap ((t104.length : Int) - 1)) = ji20 := (i64_w _).trans hji20
                      by_cases c21 : 0 ≤ (ji20)
                      · rw [if_pos c21] at H
                        have c21b0 : decide (0 ≤ (ji20)) = true := decide_eq_true c21
                        clear c21
                        by_cases c22 : (ji20) < (t104.length : Int)
                        · rw [if_pos c22] at H
                          have c22b0 : decide ((ji20) < (t104.length : Int)) = true := decide_eq_true c22
                          clear c22
                          by_cases c23 : (ji20) < (l0.length : Int)
                          · rw [if_pos c23] at H
                            have c23b0 : decide ((ji20) < (l0.length : Int)) = true := decide_eq_true c23
                            clear c23
                            by_cases c24 : (wrap64 ((rd t104 x9_2) - (rd l0 x9_2))) < (wrap64 ((rd t104 (ji20)) - (rd l0 (ji20))))
                            · rw [if_pos c24] at H
                              have c24b0 : decide ((wrap64 ((rd t104 x9_2) - (rd l0 x9_2))) < (wrap64 ((rd t104 (ji20)) - (rd l0 (ji20))))) = true := decide_eq_true c24
                              clear c24
                              obtain rfl := Option.some.inj H
                              have p107 : 0 ≤ (x9_2 : Int) := of_decide_eq_true (by first | (with_reducible assumption) | assumption)
                              have q107 : x9_2 < (t104.length : Int) := of_decide_eq_true (by first | (with_reducible assumption) | assumption)
                              obtain ⟨ad107, e107, hx107_0⟩ := Kd.at_int (Kd.R_reads' HO_7.out).2.2 x9_2 p107 q107
                              cases e107
                              replace p107 := eq_true p107
                              replace q107 := eq_true q107
                              have p108 : 0 ≤ (x9_2 : Int) := of_decide_eq_true (by first | (with_reducible assumption) | assumption)
                              have q108 : x9_2 < (l0.length : Int) := of_decide_eq_true (by first | (with_reducible assumption) | assumption)
                              obtain ⟨ad108, e108, hx108_0⟩ := Kd.at_int HR0.out x9_2 p108 q108
                              cases e108
                              replace hx108_0 := (HB.out.cell (World.block_lt_of_cell? w _ hx108_0)).trans hx108_0
                              replace p108 := eq_true p108
                              replace q108 := eq_true q108
                              have p109 : 0 ≤ ((ji20) : Int) := of_decide_eq_true (by first | (with_reducible assumption) | assumption)
                              have q109 : (ji20) < (t104.length : Int) := of_decide_eq_true (by first | (with_reducible assumption) | assumption)
                              obtain ⟨ad109, e109, hx109_0⟩ := Kd.at_int (Kd.R_reads' HO_7.out).2.2 (ji20) p109 q109
                              obtain rfl : ad107 = ad109 := (by injection e109)
                              replace p109 := eq_true p109
                              replace q109 := eq_true q109
                              have p110 : 0 ≤ ((ji20) : Int) := of_decide_eq_true (by first | (with_reducible assumption) | assumption)
                              have q110 : (ji20) < (l0.length : Int) := of_decide_eq_true (by first | (with_reducible assumption) | assumption)
                              obtain ⟨ad110, e110, hx110_0⟩ := Kd.at_int HR0.out (ji20) p110 q110
                              obtain rfl : ad108 = ad110 := (by injection e110)
                              replace hx110_0 := (HB.out.cell (World.block_lt_of_cell? w _ hx110_0)).trans hx110_0
                              replace p110 := eq_true p110
                              replace q110 := eq_true q110
                              go_wp2
                              repeat (go_quiet (fail); try go_wp2)
                              go_ret
                              exact ⟨by first | rfl | (simp [errW_none, errW_some] <;> rfl) | (simp only [← hji20]; first | rfl | (simp [errW_none, errW_some] <;> rfl)) | (simp [*, errW_none, errW_some] <;> rfl), by repeat (first | (with_reducible first | exact HB.out | apply below_alloc | apply pw_below_drewN | apply below_drew1) | exact HB.out)⟩
                            · rw [if_neg c24] at H
                              have c24b0 : decide ((wrap64 ((rd t104 x9_2) - (rd l0 x9_2))) < (wrap64 ((rd t104 (ji20)) - (rd l0 (ji20))))) = false := decide_eq_false c24
                              clear c24
                              by_cases c25 : 0 < (t104.length : Int)
                              · rw [if_pos c25] at H
                                have c25b0 : decide (0 < (t104.length : Int)) = true := decide_eq_true c25
                                have c25b1 : decide (0 < t104.length) = true := decide_eq_true (by omega)
                                clear c25
                                by_cases c26 : 0 < (l0.length : Int)
                                · rw [if_pos c26] at H
                                  have c26b0 : decide (0 < (l0.length : Int)) = true := decide_eq_true c26
                                  have c26b1 : decide (0 < l0.length) = true := decide_eq_true (by omega)
                                  clear c26
                                  by_cases c27 : (wrap64 ((rd t104 x9_2) - (rd l0 x9_2))) > (wrap64 ((rd t104 0) - (rd l0 0)))
                                  · rw [if_pos c27] at H
                                    have c27b0 : decide ((wrap64 ((rd t104 0) - (rd l0 0))) < (wrap64 ((rd t104 x9_2) - (rd l0 x9_2)))) = true := decide_eq_true c27
                                    clear c27
                                    obtain rfl := Option.some.inj H
                                    have p107 : 0 ≤ (x9_2 : Int) := of_decide_eq_true (by first | (with_reducible assumption) | assumption)
                                    have q107 : x9_2 < (t104.length : Int) := of_decide_eq_true (by first | (with_reducible assumption) | assumption)
                                    obtain ⟨ad107, e107, hx107_0⟩ := Kd.at_int (Kd.R_reads' HO_7.out).2.2 x9_2 p107 q107
                                    cases e107
                                    replace p107 := eq_true p107
                                    replace q107 := eq_true q107
                                    have p108 : 0 ≤ (x9_2 : Int) := of_decide_eq_true (by first | (with_reducible assumption) | assumption)
                                    have q108 : x9_2 < (l0.length : Int) := of_decide_eq_true (by first | (with_reducible assumption) | assumption)
                                    obtain ⟨ad108, e108, hx108_0⟩ := Kd.at_int HR0.out x9_2 p108 q108
                                    cases e108
                                    replace hx108_0 := (HB.out.cell (World.block_lt_of_cell? w _ hx108_0)).trans hx108_0
                                    replace p108 := eq_true p108
                                    replace q108 := eq_true q108
                                    have p109 : 0 ≤ ((ji20) : Int) := of_decide_eq_true (by first | (with_reducible assumption) | assumption)
                                    have q109 : (ji20) < (t104.length : Int) := of_decide_eq_true (by first | (with_reducible assumption) | assumption)
                                    obtain ⟨ad109, e109, hx109_0⟩ := Kd.at_int (Kd.R_reads' HO_7.out).2.2 (ji20) p109 q109
                                    obtain rfl : ad107 = ad109 := (by injection e109)
                                    replace p109 := eq_true p109
                                    replace q109 := eq_true q109
                                    have p110 : 0 ≤ ((ji20) : Int) := of_decide_eq_true (by first | (with_reducible assumption) | assumption)
                                    have q110 : (ji20) < (l0.length : Int) := of_decide_eq_true (by first | (with_reducible assumption) | assumption)
                                    obtain ⟨ad110, e110, hx110_0⟩ := Kd.at_int HR0.out (ji20) p110 q110
                                    obtain rfl : ad108 = ad110 := (by injection e110)
                                    replace hx110_0 := (HB.out.cell (World.block_lt_of_cell? w _ hx110_0)).trans hx110_0
                                    replace p110 := eq_true p110
                                    replace q110 := eq_true q110
                                    have p111 : 0 ≤ (0 : Int) := (by omega)
                                    have q111 : 0 < (t104.length : Int) := of_decide_eq_true (by first | (with_reducible assumption) | assumption)
                                    obtain ⟨ad111, e111, hx111_0⟩ := Kd.at_int (Kd.R_reads' HO_7.out).2.2 0 p111 q111
                                    obtain rfl : ad107 = ad111 := (by injection e111)
                                    have qi111 : (0 < t104.length) = True := eq_true (by omega)
                                    (try rw [show ((0 : Int)).toNat = 0 from rfl] at hx111_0)
                                    (try rw [Addr.add_zero'] at hx111_0)
                                    replace p111 := eq_true p111
                                    replace q111 := eq_true q111
                                    have p112 : 0 ≤ (0 : Int) := (by omega)
                                    have q112 : 0 < (l0.length : Int) := of_decide_eq_true (by first | (with_reducible assumption) | assumption)
                                    obtain ⟨ad112, e112, hx112_0⟩ := Kd.at_int HR0.out 0 p112 q112
                                    obtain rfl : ad108 = ad112 := (by injection e112)
                                    have qi112 : (0 < l0.length) = True := eq_true (by omega)
                                    (try rw [show ((0 : Int)).toNat = 0 from rfl] at hx112_0)
                                    (try rw [Addr.add_zero'] at hx112_0)
                                    replace hx112_0 := (HB.out.cell (World.block_lt_of_cell? w _ hx112_0)).trans hx112_0
                                    replace p112 := eq_true p112
                                    replace q112 := eq_true q112
                                    go_wp2
                                    repeat (go_quiet (fail); try go_wp2)
                                    go_ret
                                    exact ⟨by first | rfl | (simp [errW_none, errW_some] <;> rfl) | (simp only [← hji20]; first | rfl | (simp [errW_none, errW_some] <;> rfl)) | (simp [*, errW_none, errW_some] <;> rfl), by repeat (first | (with_reducible first | exact HB.out | apply below_alloc | apply pw_below_drewN | apply below_drew1) | exact HB.out)⟩
                                  · rw [if_neg c27] at H
                                    have c27b0 : decide ((wrap64 ((rd t104 0) - (rd l0 0))) < (wrap64 ((rd t104 x9_2) - (rd l0 x9_2)))) = false := decide_eq_false c27
                                    clear c27
                                    by_cases c28 : (wrap64 ((rd t104 0) - (rd l0 0))) > (wrap64 ((wrap64 ((rd t104 (ji20)) - (rd l0 (ji20)))) + 1))
                                    · rw [if_pos c28] at H
                                      have c28b0 : decide ((wrap64 ((wrap64 ((rd t104 (ji20)) - (rd l0 (ji20)))) + 1)) < (wrap64 ((rd t104 0) - (rd l0 0)))) = true := decide_eq_true c28
                                      clear c28
                                      obtain rfl := Option.some.inj H
                                      have p107 : 0 ≤ (x9_2 : Int) := of_decide_eq_true (by first | (with_reducible assumption) | assumption)
                                      have q107 : x9_2 < (t104.length : Int) := of_decide_eq_true (by first | (with_reducible assumption) | assumption)
                                      obtain ⟨ad107, e107, hx107_0⟩ := Kd.at_int (Kd.R_reads' HO_7.out).2.2 x9_2 p107 q107
                                      cases e107
                                      replace p107 := eq_true p107
                                      replace q107 := eq_true q107
                                      have p108 : 0 ≤ (x9_2 : Int) := of_decide_eq_true (by first | (with_reducible assumption) | assumption)
                                      have q108 : x9_2 < (l0.length : Int) := of_decide_eq_true (by first | (with_reducible assumption) | assumption)
                                      obtain ⟨ad108, e108, hx108_0⟩ := Kd.at_int HR0.out x9_2 p108 q108
                                      cases e108
                                      replace hx108_0 := (HB.out.cell (World.block_lt_of_cell? w _ hx108_0)).trans hx108_0
                                      replace p108 := eq_true p108
                                      replace q108 := eq_true q108
                                      have p109 : 0 ≤ ((ji20) : Int) := of_decide_eq_true (by first | (with_reducible assumption) | assumption)
                                      have q109 : (ji20) < (t104.length : Int) := of_decide_eq_true (by first | (with_reducible assumption) | assumption)
                                      obtain ⟨ad109, e109, hx109_0⟩ := Kd.at_int (Kd.R_reads' HO_7.out).2.2 (ji20) p109 q109
                                      obtain rfl : ad107 = ad109 := (by injection e109)
                                      replace p109 := eq_true p109
                                      replace q109 := eq_true q109
                                      have p110 : 0 ≤ ((ji20) : Int) := of_decide_eq_true (by first | (with_reducible assumption) | assumption)
                                      have q110 : (ji20) < (l0.length : Int) := of_decide_eq_true (by first | (with_reducible assumption) | assumption)
                                      obtain ⟨ad110, e110, hx110_0⟩ := Kd.at_int HR0.out (ji20) p110 q110
                                      obtain rfl : ad108 = ad110 := (by injection e110)
                                      replace hx110_0 := (HB.out.cell (World.block_lt_of_cell? w _ hx110_0)).trans hx110_0
                                      replace p110 := eq_true p110
                                      replace q110 := eq_true q110
                                      have p111 : 0 ≤ (0 : Int) := (by omega)
                                      have q111 : 0 < (t104.length : Int) := of_decide_eq_true (by first | (with_reducible assumption) | assumption)
                                      obtain ⟨ad111, e111, hx111_0⟩ := Kd.at_int (Kd.R_reads' HO_7.out).2.2 0 p111 q111
                                      obtain rfl : ad107 = ad111 := (by injection e111)
                                      have qi111 : (0 < t104.length) = True := eq_true (by omega)
                                      (try rw [show ((0 : Int)).toNat = 0 from rfl] at hx111_0)
                                      (try rw [Addr.add_zero'] at hx111_0)
                                      replace p111 := eq_true p111
                                      replace q111 := eq_true q111
                                      have p112 : 0 ≤ (0 : Int) := (by omega)
                                      have q112 : 0 < (l0.length : Int) := of_decide_eq_true (by first | (with_reducible assumption) | assumption)
                                      obtain ⟨ad112, e112, hx112_0⟩ := Kd.at_int HR0.out 0 p112 q112
                                      obtain rfl : ad108 = ad112 := (by injection e112)
                                      have qi112 : (0 < l0.length) = True := eq_true (by omega)
                                      (try rw [show ((0 : Int)).toNat = 0 from rfl] at hx112_0)
                                      (try rw [Addr.add_zero'] at hx112_0)
                                      replace hx112_0 := (HB.out.cell (World.block_lt_of_cell? w _ hx112_0)).trans hx112_0
                                      replace p112 := eq_true p112
                                      replace q112 := eq_true q112
                                      have p113 : 0 ≤ (0 : Int) := (by omega)
                                      have q113 : 0 < (t104.length : Int) := of_decide_eq_true (by first | (with_reducible assumption) | assumption)
                                      obtain ⟨ad113, e113, hx113_0⟩ := Kd.at_int (Kd.R_reads' HO_7.out).2.2 0 p113 q113
                                      obtain rfl : ad107 = ad113 := (by injection e113)
                                      have qi113 : (0 < t104.length) = True := eq_true (by omega)
                                      (try rw [show ((0 : Int)).toNat = 0 from rfl] at hx113_0)
                                      (try rw [Addr.add_zero'] at hx113_0)
                                      replace p113 := eq_true p113
                                      replace q113 := eq_true q113
                                      have p114 : 0 ≤ (0 : Int) := (by omega)
                                      have q114 : 0 < (l0.length : Int) := of_decide_eq_true (by first | (with_reducible assumption) | assumption)
                                      obtain ⟨ad114, e114, hx114_0⟩ := Kd.at_int HR0.out 0 p114 q114
                                      obtain rfl : ad108 = ad114 := (by injection e114)
                                      have qi114 : (0 < l0.length) = True := eq_true (by omega)
                                      (try rw [show ((0 : Int)).toNat = 0 from rfl] at hx114_0)
                                      (try rw [Addr.add_zero'] at hx114_0)
                                      replace hx114_0 := (HB.out.cell (World.block_lt_of_cell? w _ hx114_0)).trans hx114_0
                                      replace p114 := eq_true p114
                                      replace q114 := eq_true q114
                                      have p115 : 0 ≤ ((ji20) : Int) := of_decide_eq_true (by first | (with_reducible assumption) | assumption)
                                      have q115 : (ji20) < (t104.length : Int) := of_decide_eq_true (by first | (with_reducible assumption) | assumption)
                                      obtain ⟨ad115, e115, hx115_0⟩ := Kd.at_int (Kd.R_reads' HO_7.out).2.2 (ji20) p115 q115
                                      obtain rfl : ad107 = ad115 := (by injection e115)
                                      replace p115 := eq_true p115
                                      replace q115 := eq_true q115
                                      have p116 : 0 ≤ ((ji20) : Int) := of_decide_eq_true (by first | (with_reducible assumption) | assumption)
                                      have q116 : (ji20) < (l0.length : Int) := of_decide_eq_true (by first | (with_reducible assumption) | assumption)
                                      obtain ⟨ad116, e116, hx116_0⟩ := Kd.at_int HR0.out (ji20) p116 q116
                                      obtain rfl : ad108 = ad116 := (by injection e116)
                                      replace hx116_0 := (HB.out.cell (World.block_lt_of_cell? w _ hx116_0)).trans hx116_0
                                      replace p116 := eq_true p116
                                      replace q116 := eq_true q116
                                      go_wp2
                                      repeat (go_quiet (fail); try go_wp2)
                                      go_ret
                                      exact ⟨by first | rfl | (simp [errW_none, errW_some] <;> rfl) | (simp only [← hji20]; first | rfl | (simp [errW_none, errW_some] <;> rfl)) | (simp [*, errW_none, errW_some] <;> rfl), by repeat (first | (with_reducible first | exact HB.out | apply below_alloc | apply pw_below_drewN | apply below_drew1) | exact HB.out)⟩
                                    · rw [if_neg c28] at H
                                      have c28b0 : decide ((wrap64 ((wrap64 ((rd t104 (ji20)) - (rd l0 (ji20)))) + 1)) < (wrap64 ((rd t104 0) - (rd l0 0)))) = false := decide_eq_false c28
                                      clear c28
                                      have H' := Aside0.mk H
                                      clear H
                                      have p107 : 0 ≤ (x9_2 : Int) := of_decide_eq_true (by first | (with_reducible assumption) | assumption)
                                      have q107 : x9_2 < (t104.length : Int) := of_decide_eq_true (by first | (with_reducible assumption) | assumption)
                                      obtain ⟨ad107, e107, hx107_0⟩ := Kd.at_int (Kd.R_reads' HO_7.out).2.2 x9_2 p107 q107
                                      cases e107
                                      replace p107 := eq_true p107
                                      replace q107 := eq_true q107
                                      have p108 : 0 ≤ (x9_2 : Int) := of_decide_eq_true (by first | (with_reducible assumption) | assumption)
                                      have q108 : x9_2 < (l0.length : Int) := of_decide_eq_true (by first | (with_reducible assumption) | assumption)
                                      obtain ⟨ad108, e108, hx108_0⟩ := Kd.at_int HR0.out x9_2 p108 q108
                                      cases e108
                                      replace hx108_0 := (HB.out.cell (World.block_lt_of_cell? w _ hx108_0)).trans hx108_0
                                      replace p108 := eq_true p108
                                      replace q108 := eq_true q108
                                      have p109 : 0 ≤ ((ji20) : Int) := of_decide_eq_true (by first | (with_reducible assumption) | assumption)
                                      have q109 : (ji20) < (t104.length : Int) := of_decide_eq_true (by first | (with_reducible assumption) | assumption)
                                      obtain ⟨ad109, e109, hx109_0⟩ := Kd.at_int (Kd.R_reads' HO_7.out).2.2 (ji20) p109 q109
                                      obtain rfl : ad107 = ad109 := (by injection e109)
                                      replace p109 := eq_true p109
                                      replace q109 := eq_true q109
                                      have p110 : 0 ≤ ((ji20) : Int) := of_decide_eq_true (by first | (with_reducible assumption) | assumption)
                                      have q110 : (ji20) < (l0.length : Int) := of_decide_eq_true (by first | (with_reducible assumption) | assumption)
                                      obtain ⟨ad110, e110, hx110_0⟩ := Kd.at_int HR0.out (ji20) p110 q110
                                      obtain rfl : ad108 = ad110 := (by injection e110)
                                      replace hx110_0 := (HB.out.cell (World.block_lt_of_cell? w _ hx110_0)).trans hx110_0
                                      replace p110 := eq_true p110
                                      replace q110 := eq_true q110
                                      have p111 : 0 ≤ (0 : Int) := (by omega)
                                      have q111 : 0 < (t104.length : Int) := of_decide_eq_true (by first | (with_reducible assumption) | assumption)
                                      obtain ⟨ad111, e111, hx111_0⟩ := Kd.at_int (Kd.R_reads' HO_7.out).2.2 0 p111 q111
                                      obtain rfl : ad107 = ad111 := (by injection e111)
                                      have qi111 : (0 < t104.length) = True := eq_true (by omega)
                                      (try rw [show ((0 : Int)).toNat = 0 from rfl] at hx111_0)
                                      (try rw [Addr.add_zero'] at hx111_0)
                                      replace p111 := eq_true p111
                                      replace q111 := eq_true q111
                                      have p112 : 0 ≤ (0 : Int) := (by omega)
                                      have q112 : 0 < (l0.length : Int) := of_decide_eq_true (by first | (with_reducible assumption) | assumption)
                                      obtain ⟨ad112, e112, hx112_0⟩ := Kd.at_int HR0.out 0 p112 q112
                                      obtain rfl : ad108 = ad112 := (by injection e112)
                                      have qi112 : (0 < l0.length) = True := eq_true (by omega)
                                      (try rw [show ((0 : Int)).toNat = 0 from rfl] at hx112_0)
                                      (try rw [Addr.add_zero'] at hx112_0)
                                      replace hx112_0 := (HB.out.cell (World.block_lt_of_cell? w _ hx112_0)).trans hx112_0
                                      replace p112 := eq_true p112
                                      replace q112 := eq_true q112
                                      have p113 : 0 ≤ (0 : Int) := (by omega)
                                      have q113 : 0 < (t104.length : Int) := of_decide_eq_true (by first | (with_reducible assumption) | assumption)
                                      obtain ⟨ad113, e113, hx113_0⟩ := Kd.at_int (Kd.R_reads' HO_7.out).2.2 0 p113 q113
                                      obtain rfl : ad107 = ad113 := (by injection e113)
                                      have qi113 : (0 < t104.length) = True := eq_true (by omega)
                                      (try rw [show ((0 : Int)).toNat = 0 from rfl] at hx113_0)
                                      (try rw [Addr.add_zero'] at hx113_0)
                                      replace p113 := eq_true p113
                                      replace q113 := eq_true q113
                                      have p114 : 0 ≤ (0 : Int) := (by omega)
                                      have q114 : 0 < (l0.length : Int) := of_decide_eq_true (by first | (with_reducible assumption) | assumption)
                                      obtain ⟨ad114, e114, hx114_0⟩ := Kd.at_int HR0.out 0 p114 q114
                                      obtain rfl : ad108 = ad114 := (by injection e114)
                                      have qi114 : (0 < l0.length) = True := eq_true (by omega)
                                      (try rw [show ((0 : Int)).toNat = 0 from rfl] at hx114_0)
                                      (try rw [Addr.add_zero'] at hx114_0)
                                      replace hx114_0 := (HB.out.cell (World.block_lt_of_cell? w _ hx114_0)).trans hx114_0
                                      replace p114 := eq_true p114
                                      replace q114 := eq_true q114
                                      have p115 : 0 ≤ ((ji20) : Int) := of_decide_eq_true (by first | (with_reducible assumption) | assumption)
                                      have q115 : (ji20) < (t104.length : Int) := of_decide_eq_true (by first | (with_reducible assumption) | assumption)
                                      obtain ⟨ad115, e115, hx115_0⟩ := Kd.at_int (Kd.R_reads' HO_7.out).2.2 (ji20) p115 q115
                                      obtain rfl : ad107 = ad115 := (by injection e115)
                                      replace p115 := eq_true p115
                                      replace q115 := eq_true q115
                                      have p116 : 0 ≤ ((ji20) : Int) := of_decide_eq_true (by first | (with_reducible assumption) | assumption)
                                      have q116 : (ji20) < (l0.length : Int) := of_decide_eq_true (by first | (with_reducible assumption) | assumption)
                                      obtain ⟨ad116, e116, hx116_0⟩ := Kd.at_int HR0.out (ji20) p116 q116
                                      obtain rfl : ad108 = ad116 := (by injection e116)
                                      replace hx116_0 := (HB.out.cell (World.block_lt_of_cell? w _ hx116_0)).trans hx116_0
                                      replace p116 := eq_true p116
                                      replace q116 := eq_true q116
                                      go_wp2
                                      repeat (go_quiet (fail); try go_wp2)
                                      go_roundg k2
                                      case measure => have := HJ4.out; have := HK2.out; omega
                                      case rel => exact ⟨(wrap64 (x8_2 + (wrap64 ((rd t104 x9_2) - (rd l0 x9_2))))), (wrap64 (x9_2 + 1)), (by first | rfl | (simp; done) | (simp [*]; done)), (by first | rfl | (simp; done) | (simp [*]; done)), H', ⟨by have := HJ4.out; have := HK2.out; omega⟩, ⟨by (with_reducible repeat (first | apply Kd.R_alloc | apply Kd.R_drewN | apply Kd.R_drew)); exact HO_7.out⟩, ⟨by repeat (first | (with_reducible first | exact HB.out | apply below_alloc | apply pw_below_drewN | apply below_drew1) | exact HB.out)⟩⟩
                                · rw [if_neg c26] at H
                                  exact absurd H (by simp)
                              · rw [if_neg c25] at H
                                exact absurd H (by simp)
                          · rw [if_neg c23] at H
                            exact absurd H (by simp)
                        · rw [if_neg c22] at H
                          exact absurd H (by simp)
                      · rw [if_neg c21] at H
                        exact absurd H (by simp)
                    · rw [if_neg c19] at H
                      exact absurd H (by simp)
                  · rw [if_neg c18] at H
                    exact absurd H (by simp)
                · rw [if_neg c17] at H
                  have c17b0 : decide (x9_2 < (t104.length : Int)) = false := decide_eq_false c17
                  clear c17
                  obtain ⟨ji29, hji29⟩ : ∃ j_ : Int, (mx 0 (wrap64 (a2 - a1))) = j_ := ⟨_, rfl⟩
                  replace H : (some (x8_2 == (ji29))) = some r := by first | (rw [hji29] at H; exact H) | (simp only [hji29] at H ⊢; exact H)
                  have hji29_ : (if 0 < (wrap64 (a2 - a1)) then (wrap64 (a2 - a1)) else 0) = ji29 := hji29
                  obtain rfl := Option.some.inj H
                  go_wp2
                  repeat (go_quiet (fail); try go_wp2)
                  go_ret
                  exact ⟨by first | rfl | (simp [errW_none, errW_some] <;> rfl) | (simp only [← hji29]; first | rfl | (simp [errW_none, errW_some] <;> rfl)) | (simp [*, errW_none, errW_some] <;> rfl), by repeat (first | (with_reducible first | exact HB.out | apply below_alloc | apply pw_below_drewN | apply below_drew1) | exact HB.out)⟩
          · rw [if_neg c14] at H
            have c14b0 : ((t104.length : Int) == (l0.length : Int)) = false := beq_eq_false_iff_ne.mpr c14
            have c14b1 : ((t104.length : Int) != (l0.length : Int)) = true := bne_iff_ne.mpr c14
            have c14b2 : (t104.length == l0.length) = false := by first | simpa using c14 | (simp at c14 ⊢; omega)
            obtain rfl := Option.some.inj H
            go_wp2_with (first | (go_at_call 14; (refine (impl_Grown.calls _ _ l0 _ _ ([] : List Int) a1 a2 t104 _ ?side1 ?side2 ?side3 ?side4 A13.out).mono ?_); (case side1 => repeat (first | exact (Kd.C_below HR0.out HB.out) | (with_reducible refine Kd.C_alloc ?_ _) | (with_reducible refine Kd.C_drewN ?_ _) | (with_reducible refine Kd.C_drew ?_))); (case side2 => exact HC0.out); (case side3 => exact Kd.C_nil _ _); (case side4 => exact Nat.le_refl _); rintro e w30 ⟨v105, rfl, ho0, hb⟩; have n0_ := Aside0.mk (Kd.R_lower ho0 (below_size (by repeat (first | (with_reducible first | exact HB.out | apply below_alloc | apply pw_below_drewN | apply below_drew1) | exact HB.out)))); have n1_ := Aside0.mk (below_step (by repeat (first | (with_reducible first | exact HB.out | apply below_alloc | apply pw_below_drewN | apply below_drew1) | exact HB.out)) hb); clear HB; have HO106 := n0_; have HB := n1_; clear n0_ n1_; (try clear hb); (try clear hb2); (try clear hk); (try clear hi); (try clear ho0); obtain ⟨Ao31, co31, eo31⟩ := Kd.R_slice HO106.out; subst eo31))
            repeat (go_quiet (first | (go_at_call 14; (refine (impl_Grown.calls _ _ l0 _ _ ([] : List Int) a1 a2 t104 _ ?side1 ?side2 ?side3 ?side4 A13.out).mono ?_); (case side1 => repeat (first | exact (Kd.C_below HR0.out HB.out) | (with_reducible refine Kd.C_alloc ?_ _) | (with_reducible refine Kd.C_drewN ?_ _) | (with_reducible refine Kd.C_drew ?_))); (case side2 => exact HC0.out); (case side3 => exact Kd.C_nil _ _); (case side4 => exact Nat.le_refl _); rintro e w30 ⟨v105, rfl, ho0, hb⟩; have n0_ := Aside0.mk (Kd.R_lower ho0 (below_size (by repeat (first | (with_reducible first | exact HB.out | apply below_alloc | apply pw_below_drewN | apply below_drew1) | exact HB.out)))); have n1_ := Aside0.mk (below_step (by repeat (first | (with_reducible first | exact HB.out | apply below_alloc | apply pw_below_drewN | apply below_drew1) | exact HB.out)) hb); clear HB; have HO106 := n0_; have HB := n1_; clear n0_ n1_; (try clear hb); (try clear hb2); (try clear hk); (try clear hi); (try clear ho0); obtain ⟨Ao31, co31, eo31⟩ := Kd.R_slice HO106.out; subst eo31)); try go_wp2_with (first | (go_at_call 14; (refine (impl_Grown.calls _ _ l0 _ _ ([] : List Int) a1 a2 t104 _ ?side1 ?side2 ?side3 ?side4 A13.out).mono ?_); (case side1 => repeat (first | exact (Kd.C_below HR0.out HB.out) | (with_reducible refine Kd.C_alloc ?_ _) | (with_reducible refine Kd.C_drewN ?_ _) | (with_reducible refine Kd.C_drew ?_))); (case side2 => exact HC0.out); (case side3 => exact Kd.C_nil _ _); (case side4 => exact Nat.le_refl _); rintro e w30 ⟨v105, rfl, ho0, hb⟩; have n0_ := Aside0.mk (Kd.R_lower ho0 (below_size (by repeat (first | (with_reducible first | exact HB.out | apply below_alloc | apply pw_below_drewN | apply below_drew1) | exact HB.out)))); have n1_ := Aside0.mk (below_step (by repeat (first | (with_reducible first | exact HB.out | apply below_alloc | apply pw_below_drewN | apply below_drew1) | exact HB.out)) hb); clear HB; have HO106 := n0_; have HB := n1_; clear n0_ n1_; (try clear hb); (try clear hb2); (try clear hk); (try clear hi); (try clear ho0); obtain ⟨Ao31, co31, eo31⟩ := Kd.R_slice HO106.out; subst eo31)))
            go_ret
            exact ⟨by first | rfl | (simp [errW_none, errW_some] <;> rfl) | (simp [*, errW_none, errW_some] <;> rfl), by repeat (first | (with_reducible first | exact HB.out | apply below_alloc | apply pw_below_drewN | apply below_drew1) | exact HB.out)⟩

end Go.Proofs.Ytapbnbinoakbhaa.GFnGrownEven
