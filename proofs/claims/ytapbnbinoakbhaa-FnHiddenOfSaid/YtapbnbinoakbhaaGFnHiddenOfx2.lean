-- printed by a program of this session (gprint.py) out of the translation; Lean checks it
import Derived.Test.YtapbnbinoakbhaaGFnHiddenOfx0
import Derived.Test.YtapbnbinoakbhaaGFnHiddenOfx1
import Derived.Test.YtapbnbinoakbhaaGivenHide
namespace Go.Proofs.Ytapbnbinoakbhaa.GFnHiddenOf
open Go.RowKit Go.Proofs.YtapbnbinoakbhaaW.PrintWords Go.Proofs.YtapbnbinoakbhaaW.PrintLast Go.Proofs.Ytapbnbinoakbhaa.GivenHide Go.Proofs.YtapbnbinoakbhaaW.PrintMore
attribute [local go_sem] max2_int min2_int max_two min_two max_three min_three max_four min_four   -- for this text's walks alone
set_option linter.unusedVariables false
set_option linter.unusedSimpArgs false

/-! ### spec_SameGrid: function 18 -/
mutual
def spec_SameGrid.l0 : Nat → List (List ByteArray) → List (List ByteArray) → Int → Option (Bool)
  | 0, _, _, _ => none
  | k + 1, x0, x1, x5 => if x5 < (x0.length : Int) then (if 0 ≤ x5 then (if x5 < (x1.length : Int) then (if ((rd_L1 x0 x5).length : Int) = ((rd_L1 x1 x5).length : Int) then (spec_SameGrid.l1 k x0 x1 x5 0) else (some false)) else (none)) else (none)) else (some true)
def spec_SameGrid.l1 : Nat → List (List ByteArray) → List (List ByteArray) → Int → Int → Option (Bool)
  | 0, _, _, _, _ => none
  | k + 1, x0, x1, x5, x6 => if 0 ≤ x5 then (if x5 < (x0.length : Int) then (if x6 < ((rd_L1 x0 x5).length : Int) then (if 0 ≤ x6 then (if x5 < (x1.length : Int) then (if x6 < ((rd_L1 x1 x5).length : Int) then (if (rdOf ByteArray.empty (rd_L1 x0 x5) x6).toList = (rdOf ByteArray.empty (rd_L1 x1 x5) x6).toList then (spec_SameGrid.l1 k x0 x1 x5 (wrap64 (x6 + 1))) else (some false)) else (none)) else (none)) else (none)) else (spec_SameGrid.l0 k x0 x1 (wrap64 (x5 + 1)))) else (none)) else (none)
end
def spec_SameGrid.f (k : Nat) (l0 : List (List ByteArray)) (l1 : List (List ByteArray)) : Option (Bool) := if (l0.length : Int) = (l1.length : Int) then (spec_SameGrid.l0 k l0 l1 0) else (some false)
theorem spec_SameGrid.mono_l : ∀ k, (∀ y0 y1 y2, LeO (spec_SameGrid.l0 k y0 y1 y2) (spec_SameGrid.l0 (k + 1) y0 y1 y2)) ∧ (∀ y0 y1 y2 y3, LeO (spec_SameGrid.l1 k y0 y1 y2 y3) (spec_SameGrid.l1 (k + 1) y0 y1 y2 y3))
  | 0 => ⟨fun _ _ _ r h => by simp [spec_SameGrid.l0] at h, fun _ _ _ _ r h => by simp [spec_SameGrid.l1] at h⟩
  | k + 1 => by
    obtain ⟨ih0, ih1⟩ := spec_SameGrid.mono_l k
    refine ⟨?_, ?_⟩
    · intro y0 y1 y2
      unfold spec_SameGrid.l0
      repeat' first
      | (with_reducible exact ih0 _ _ _)
      | (with_reducible exact ih1 _ _ _ _)
      | (with_reducible exact LeO.refl _)
      | (with_reducible exact LeO.none _)
      | (with_reducible refine LeO.ite ?_ ?_)
      | (with_reducible refine LeO.bind ?_ (fun _ => ?_))
      | exact ih0 _ _ _
      | exact ih1 _ _ _ _
      | exact LeO.none _
      | refine LeO.ite ?_ ?_
      | refine LeO.bind ?_ (fun _ => ?_)
    · intro y0 y1 y2 y3
      unfold spec_SameGrid.l1
      repeat' first
      | (with_reducible exact ih0 _ _ _)
      | (with_reducible exact ih1 _ _ _ _)
      | (with_reducible exact LeO.refl _)
      | (with_reducible exact LeO.none _)
      | (with_reducible refine LeO.ite ?_ ?_)
      | (with_reducible refine LeO.bind ?_ (fun _ => ?_))
      | exact ih0 _ _ _
      | exact ih1 _ _ _ _
      | exact LeO.none _
      | refine LeO.ite ?_ ?_
      | refine LeO.bind ?_ (fun _ => ?_)
theorem spec_SameGrid.mono : ∀ a0 a1 k, LeO (spec_SameGrid.f k a0 a1) (spec_SameGrid.f (k + 1) a0 a1) := by
  intro a0 a1 k
  obtain ⟨ih0, ih1⟩ := spec_SameGrid.mono_l k
  unfold spec_SameGrid.f
  repeat' first
      | (with_reducible exact ih0 _ _ _)
      | (with_reducible exact ih1 _ _ _ _)
      | (with_reducible exact LeO.refl _)
      | (with_reducible exact LeO.none _)
      | (with_reducible refine LeO.ite ?_ ?_)
      | (with_reducible refine LeO.bind ?_ (fun _ => ?_))
      | exact ih0 _ _ _
      | exact ih1 _ _ _ _
      | exact LeO.none _
      | refine LeO.ite ?_ ?_
      | refine LeO.bind ?_ (fun _ => ?_)
set_option maxHeartbeats 8000000 in
set_option maxRecDepth 100000 in
theorem spec_SameGrid.calls (k : Nat) (A0 : Option Addr) (c0 : Nat) (l0 : List (List ByteArray)) (A1 : Option Addr) (c1 : Nat) (l1 : List (List ByteArray)) (r : Bool) (w : World) (hr0 : Kd.C (Kd.slice 9 Kd.string) w A0 l0.length l0) (hc0 : l0.length ≤ c0) (hr1 : Kd.C (Kd.slice 9 Kd.string) w A1 l1.length l1) (hc1 : l1.length ≤ c1) (h : spec_SameGrid.f k l0 l1 = some r) :
    Calls Try.prog 18 #[.slice A0 l0.length c0, .slice A1 l1.length c1] w fun e w' => e = .returned (.bool r) ∧ Drawn0 w w' := by
  have HR0 := Aside0.mk hr0
  have HC0 := Aside0.mk hc0
  clear hr0 hc0
  have HR1 := Aside0.mk hr1
  have HC1 := Aside0.mk hc1
  clear hr1 hc1
  have H : (if (l0.length : Int) = (l1.length : Int) then (spec_SameGrid.l0 k l0 l1 0) else (some false)) = some r := h
  clear h
  by_cases c3 : (l0.length : Int) = (l1.length : Int)
  · rw [if_pos c3] at H
    have c3b0 : ((l0.length : Int) == (l1.length : Int)) = true := beq_iff_eq.mpr c3
    have c3b1 : ((l0.length : Int) != (l1.length : Int)) = false := bne_eq_false_iff_eq.mpr c3
    have c3b2 : (l0.length == l1.length) = true := by first | simpa using c3 | (simp at c3 ⊢; omega)
    clear c3
    have H' := Aside0.mk H
    clear H
    go_enter Try.func18, Try.ntmps18
    go_wp2
    repeat (go_quiet (fail); try go_wp2)
    go_loopg [5] k (fun kq v5 w' => ∃ (x5_1 : Int), v5 = .int .i64 x5_1 ∧ Aside0 (spec_SameGrid.l0 kq l0 l1 x5_1 = some r) ∧ Aside0 (kq ≤ k) ∧ Drawn0 w w')
    case atStart => exact ⟨(0), (by first | rfl | (simp; done) | (simp [*]; done)), H', ⟨Nat.le_refl _⟩, by repeat (first | exact Drawn0.refl _ | apply Drawn0.step)⟩
    case round =>
      clear H'
      try clear c1
      try clear p2
      try clear c3
      try clear c3b0
      try clear c3b1
      try clear c3b2
      obtain ⟨x5_1, rfl, HA, HK1, ⟨m1, rfl⟩⟩ := hrel
      cases gk with
      | zero => exact absurd HA.out (by simp [spec_SameGrid.l0])
      | succ k1 =>
        have H := HA.out
        clear HA
        simp only [spec_SameGrid.l0] at H
        by_cases c4 : x5_1 < (l0.length : Int)
        · rw [if_pos c4] at H
          have c4b0 : decide (x5_1 < (l0.length : Int)) = true := decide_eq_true c4
          clear c4
          by_cases c5 : 0 ≤ x5_1
          · rw [if_pos c5] at H
            have c5b0 : decide (0 ≤ x5_1) = true := decide_eq_true c5
            clear c5
            by_cases c6 : x5_1 < (l1.length : Int)
            · rw [if_pos c6] at H
              have c6b0 : decide (x5_1 < (l1.length : Int)) = true := decide_eq_true c6
              clear c6
              by_cases c7 : ((rd_L1 l0 x5_1).length : Int) = ((rd_L1 l1 x5_1).length : Int)
              · rw [if_pos c7] at H
                have c7b0 : (((rd_L1 l0 x5_1).length : Int) == ((rd_L1 l1 x5_1).length : Int)) = true := beq_iff_eq.mpr c7
                have c7b1 : (((rd_L1 l0 x5_1).length : Int) != ((rd_L1 l1 x5_1).length : Int)) = false := bne_eq_false_iff_eq.mpr c7
                have c7b2 : ((rd_L1 l0 x5_1).length == (rd_L1 l1 x5_1).length) = true := by first | simpa using c7 | (simp at c7 ⊢; omega)
                clear c7
                have H' := Aside0.mk H
                clear H
                have p119 : 0 ≤ (x5_1 : Int) := of_decide_eq_true (by first | (with_reducible assumption) | assumption)
                have q119 : x5_1 < (l0.length : Int) := of_decide_eq_true (by first | (with_reducible assumption) | assumption)
                obtain ⟨ad119, A119_0, c119_0, e119, hx119_0, hl119_0, hi119_0⟩ := at_L1 HR0.out x5_1 p119 q119
                cases e119
                have HR119_0 := Aside0.mk hi119_0
                have HC119_0 := Aside0.mk hl119_0
                clear hi119_0 hl119_0
                replace p119 := eq_true p119
                replace q119 := eq_true q119
                have p120 : 0 ≤ (x5_1 : Int) := of_decide_eq_true (by first | (with_reducible assumption) | assumption)
                have q120 : x5_1 < (l1.length : Int) := of_decide_eq_true (by first | (with_reducible assumption) | assumption)
                obtain ⟨ad120, A120_0, c120_0, e120, hx120_0, hl120_0, hi120_0⟩ := at_L1 HR1.out x5_1 p120 q120
                cases e120
                have HR120_0 := Aside0.mk hi120_0
                have HC120_0 := Aside0.mk hl120_0
                clear hi120_0 hl120_0
                replace p120 := eq_true p120
                replace q120 := eq_true q120
                go_wp2
                repeat (go_quiet (fail); try go_wp2)
                go_loopg [6] k1 (fun kq v6 w' => ∃ (x6_2 : Int), v6 = .int .i64 x6_2 ∧ Aside0 (spec_SameGrid.l1 kq l0 l1 x5_1 x6_2 = some r) ∧ Aside0 (kq ≤ k1) ∧ Drawn0 w w')
                case atStart => exact ⟨(0), (by first | rfl | (simp; done) | (simp [*]; done)), H', ⟨Nat.le_refl _⟩, by repeat (first | exact Drawn0.refl _ | apply Drawn0.step)⟩
                case round =>
                  clear H'
                  try clear c1
                  try clear p1
                  try clear q1
                  try clear hx1
                  try clear p2
                  try clear c3
                  try clear c3b0
                  try clear c3b1
                  try clear c3b2
                  try clear c4
                  try clear c4b0
                  try clear c5
                  try clear c5b0
                  try clear c6
                  try clear c6b0
                  try clear c7
                  try clear c7b0
                  try clear c7b1
                  try clear c7b2
                  try clear hx119_0
                  try clear hx120_0
                  try clear p119
                  try clear p120
                  try clear p2
                  try clear q119
                  try clear q120
                  obtain ⟨x6_2, rfl, HA, HK2, ⟨m2, rfl⟩⟩ := hrel
                  cases gk with
                  | zero => exact absurd HA.out (by simp [spec_SameGrid.l1])
                  | succ k2 =>
                    have H := HA.out
                    clear HA
                    simp only [spec_SameGrid.l1] at H
                    by_cases c8 : 0 ≤ x5_1
                    · rw [if_pos c8] at H
                      have c8b0 : decide (0 ≤ x5_1) = true := decide_eq_true c8
                      clear c8
                      by_cases c9 : x5_1 < (l0.length : Int)
                      · rw [if_pos c9] at H
                        have c9b0 : decide (x5_1 < (l0.length : Int)) = true := decide_eq_true c9
                        clear c9
                        by_cases c10 : x6_2 < ((rd_L1 l0 x5_1).length : Int)
                        · rw [if_pos c10] at H
                          have c10b0 : decide (x6_2 < ((rd_L1 l0 x5_1).length : Int)) = true := decide_eq_true c10
                          clear c10
                          by_cases c11 : 0 ≤ x6_2
                          · rw [if_pos c11] at H
                            have c11b0 : decide (0 ≤ x6_2) = true := decide_eq_true c11
                            clear c11
                            by_cases c12 : x5_1 < (l1.length : Int)
                            · rw [if_pos c12] at H
                              have c12b0 : decide (x5_1 < (l1.length : Int)) = true := decide_eq_true c12
                              clear c12
                              by_cases c13 : x6_2 < ((rd_L1 l1 x5_1).length : Int)
                              · rw [if_pos c13] at H
                                have c13b0 : decide (x6_2 < ((rd_L1 l1 x5_1).length : Int)) = true := decide_eq_true c13
                                clear c13
                                by_cases c14 : (rdOf ByteArray.empty (rd_L1 l0 x5_1) x6_2).toList = (rdOf ByteArray.empty (rd_L1 l1 x5_1) x6_2).toList
                                · rw [if_pos c14] at H
                                  have c14b0 : ((rdOf ByteArray.empty (rd_L1 l0 x5_1) x6_2).toList == (rdOf ByteArray.empty (rd_L1 l1 x5_1) x6_2).toList) = true := beq_iff_eq.mpr c14
                                  have c14b1 : ((rdOf ByteArray.empty (rd_L1 l0 x5_1) x6_2).toList != (rdOf ByteArray.empty (rd_L1 l1 x5_1) x6_2).toList) = false := bne_eq_false_iff_eq.mpr c14
                                  clear c14
                                  have H' := Aside0.mk H
                                  clear H
                                  have p121 : 0 ≤ (x5_1 : Int) := of_decide_eq_true (by first | (with_reducible assumption) | assumption)
                                  have q121 : x5_1 < (l0.length : Int) := of_decide_eq_true (by first | (with_reducible assumption) | assumption)
                                  obtain ⟨ad121, A121_0, c121_0, e121, hx121_0, hl121_0, hi121_0⟩ := at_L1 HR0.out x5_1 p121 q121
                                  obtain rfl : ad119 = ad121 := (by injection e121)
                                  have HR121_0 := Aside0.mk hi121_0
                                  have HC121_0 := Aside0.mk hl121_0
                                  clear hi121_0 hl121_0
                                  replace p121 := eq_true p121
                                  replace q121 := eq_true q121
                                  have p122 : 0 ≤ (x5_1 : Int) := of_decide_eq_true (by first | (with_reducible assumption) | assumption)
                                  have q122 : x5_1 < (l0.length : Int) := of_decide_eq_true (by first | (with_reducible assumption) | assumption)
                                  obtain ⟨ad122, A122_0, c122_0, e122, hx122_0, hl122_0, hi122_0⟩ := at_L1 HR0.out x5_1 p122 q122
                                  obtain rfl : ad119 = ad122 := (by injection e122)
                                  have HR122_0 := Aside0.mk hi122_0
                                  have HC122_0 := Aside0.mk hl122_0
                                  clear hi122_0 hl122_0
                                  replace p122 := eq_true p122
                                  replace q122 := eq_true q122
                                  have ea_ := Option.some.inj (hx121_0.symm.trans hx122_0)
                                  injection ea_ with ea_ en_ ec_
                                  subst ea_
                                  subst ec_
                                  clear en_
                                  have p123 : 0 ≤ (x6_2 : Int) := of_decide_eq_true (by first | (with_reducible assumption) | assumption)
                                  have q123 : x6_2 < ((rd_L1 l0 x5_1).length : Int) := of_decide_eq_true (by first | (with_reducible assumption) | assumption)
                                  obtain ⟨ad123, e123, hx123_0⟩ := Kd.at_string HR122_0.out x6_2 p123 q123
                                  cases e123
                                  replace p123 := eq_true p123
                                  replace q123 := eq_true q123
                                  have p124 : 0 ≤ (x5_1 : Int) := of_decide_eq_true (by first | (with_reducible assumption) | assumption)
                                  have q124 : x5_1 < (l1.length : Int) := of_decide_eq_true (by first | (with_reducible assumption) | assumption)
                                  obtain ⟨ad124, A124_0, c124_0, e124, hx124_0, hl124_0, hi124_0⟩ := at_L1 HR1.out x5_1 p124 q124
                                  obtain rfl : ad120 = ad124 := (by injection e124)
                                  have HR124_0 := Aside0.mk hi124_0
                                  have HC124_0 := Aside0.mk hl124_0
                                  clear hi124_0 hl124_0
                                  replace p124 := eq_true p124
                                  replace q124 := eq_true q124
                                  have p125 : 0 ≤ (x6_2 : Int) := of_decide_eq_true (by first | (with_reducible assumption) | assumption)
                                  have q125 : x6_2 < ((rd_L1 l1 x5_1).length : Int) := of_decide_eq_true (by first | (with_reducible assumption) | assumption)
                                  obtain ⟨ad125, e125, hx125_0⟩ := Kd.at_string HR124_0.out x6_2 p125 q125
                                  cases e125
                                  replace p125 := eq_true p125
                                  replace q125 := eq_true q125
                                  go_wp2
                                  repeat (go_quiet (fail); try go_wp2)
                                  go_roundg k2
                                  case measure => have := HK1.out; have := HK2.out; omega
                                  case rel => exact ⟨(wrap64 (x6_2 + 1)), (by first | rfl | (simp; done) | (simp [*]; done)), H', ⟨by have := HK1.out; have := HK2.out; omega⟩, by repeat (first | exact Drawn0.refl _ | apply Drawn0.step)⟩
                                · rw [if_neg c14] at H
                                  have c14b0 : ((rdOf ByteArray.empty (rd_L1 l0 x5_1) x6_2).toList == (rdOf ByteArray.empty (rd_L1 l1 x5_1) x6_2).toList) = false := beq_eq_false_iff_ne.mpr c14
                                  have c14b1 : ((rdOf ByteArray.empty (rd_L1 l0 x5_1) x6_2).toList != (rdOf ByteArray.empty (rd_L1 l1 x5_1) x6_2).toList) = true := bne_iff_ne.mpr c14
                                  obtain rfl := Option.some.inj H
                                  have p121 : 0 ≤ (x5_1 : Int) := of_decide_eq_true (by first | (with_reducible assumption) | assumption)
                                  have q121 : x5_1 < (l0.length : Int) := of_decide_eq_true (by first | (with_reducible assumption) | assumption)
                                  obtain ⟨ad121, A121_0, c121_0, e121, hx121_0, hl121_0, hi121_0⟩ := at_L1 HR0.out x5_1 p121 q121
                                  obtain rfl : ad119 = ad121 := (by injection e121)
                                  have HR121_0 := Aside0.mk hi121_0
                                  have HC121_0 := Aside0.mk hl121_0
                                  clear hi121_0 hl121_0
                                  replace p121 := eq_true p121
                                  replace q121 := eq_true q121
                                  have p122 : 0 ≤ (x5_1 : Int) := of_decide_eq_true (by first | (with_reducible assumption) | assumption)
                                  have q122 : x5_1 < (l0.length : Int) := of_decide_eq_true (by first | (with_reducible assumption) | assumption)
                                  obtain ⟨ad122, A122_0, c122_0, e122, hx122_0, hl122_0, hi122_0⟩ := at_L1 HR0.out x5_1 p122 q122
                                  obtain rfl : ad119 = ad122 := (by injection e122)
                                  have HR122_0 := Aside0.mk hi122_0
                                  have HC122_0 := Aside0.mk hl122_0
                                  clear hi122_0 hl122_0
                                  replace p122 := eq_true p122
                                  replace q122 := eq_true q122
                                  have ea_ := Option.some.inj (hx121_0.symm.trans hx122_0)
                                  injection ea_ with ea_ en_ ec_
                                  subst ea_
                                  subst ec_
                                  clear en_
                                  have p123 : 0 ≤ (x6_2 : Int) := of_decide_eq_true (by first | (with_reducible assumption) | assumption)
                                  have q123 : x6_2 < ((rd_L1 l0 x5_1).length : Int) := of_decide_eq_true (by first | (with_reducible assumption) | assumption)
                                  obtain ⟨ad123, e123, hx123_0⟩ := Kd.at_string HR122_0.out x6_2 p123 q123
                                  cases e123
                                  replace p123 := eq_true p123
                                  replace q123 := eq_true q123
                                  have p124 : 0 ≤ (x5_1 : Int) := of_decide_eq_true (by first | (with_reducible assumption) | assumption)
                                  have q124 : x5_1 < (l1.length : Int) := of_decide_eq_true (by first | (with_reducible assumption) | assumption)
                                  obtain ⟨ad124, A124_0, c124_0, e124, hx124_0, hl124_0, hi124_0⟩ := at_L1 HR1.out x5_1 p124 q124
                                  obtain rfl : ad120 = ad124 := (by injection e124)
                                  have HR124_0 := Aside0.mk hi124_0
                                  have HC124_0 := Aside0.mk hl124_0
                                  clear hi124_0 hl124_0
                                  replace p124 := eq_true p124
                                  replace q124 := eq_true q124
                                  have p125 : 0 ≤ (x6_2 : Int) := of_decide_eq_true (by first | (with_reducible assumption) | assumption)
                                  have q125 : x6_2 < ((rd_L1 l1 x5_1).length : Int) := of_decide_eq_true (by first | (with_reducible assumption) | assumption)
                                  obtain ⟨ad125, e125, hx125_0⟩ := Kd.at_string HR124_0.out x6_2 p125 q125
                                  cases e125
                                  replace p125 := eq_true p125
                                  replace q125 := eq_true q125
                                  go_wp2
                                  repeat (go_quiet (fail); try go_wp2)
                                  go_ret
                                  exact ⟨by first | rfl | (simp; done) | (simp [*]; done), by repeat (first | exact Drawn0.refl _ | apply Drawn0.step)⟩
                              · rw [if_neg c13] at H
                                exact absurd H (by simp)
                            · rw [if_neg c12] at H
                              exact absurd H (by simp)
                          · rw [if_neg c11] at H
                            exact absurd H (by simp)
                        · rw [if_neg c10] at H
                          have c10b0 : decide (x6_2 < ((rd_L1 l0 x5_1).length : Int)) = false := decide_eq_false c10
                          clear c10
                          have H' := Aside0.mk H
                          clear H
                          have p121 : 0 ≤ (x5_1 : Int) := of_decide_eq_true (by first | (with_reducible assumption) | assumption)
                          have q121 : x5_1 < (l0.length : Int) := of_decide_eq_true (by first | (with_reducible assumption) | assumption)
                          obtain ⟨ad121, A121_0, c121_0, e121, hx121_0, hl121_0, hi121_0⟩ := at_L1 HR0.out x5_1 p121 q121
                          obtain rfl : ad119 = ad121 := (by injection e121)
                          have HR121_0 := Aside0.mk hi121_0
                          have HC121_0 := Aside0.mk hl121_0
                          clear hi121_0 hl121_0
                          replace p121 := eq_true p121
                          replace q121 := eq_true q121
                          go_wp2
                          repeat (go_quiet (fail); try go_wp2)
                          go_roundg k2
                          case measure => have := HK1.out; have := HK2.out; omega
                          case rel => exact ⟨(wrap64 (x5_1 + 1)), (by first | rfl | (simp; done) | (simp [*]; done)), H', ⟨by have := HK1.out; have := HK2.out; omega⟩, by repeat (first | exact Drawn0.refl _ | apply Drawn0.step)⟩
                      · rw [if_neg c9] at H
                        exact absurd H (by simp)
                    · rw [if_neg c8] at H
                      exact absurd H (by simp)
              · rw [if_neg c7] at H
                have c7b0 : (((rd_L1 l0 x5_1).length : Int) == ((rd_L1 l1 x5_1).length : Int)) = false := beq_eq_false_iff_ne.mpr c7
                have c7b1 : (((rd_L1 l0 x5_1).length : Int) != ((rd_L1 l1 x5_1).length : Int)) = true := bne_iff_ne.mpr c7
                have c7b2 : ((rd_L1 l0 x5_1).length == (rd_L1 l1 x5_1).length) = false := by first | simpa using c7 | (simp at c7 ⊢; omega)
                obtain rfl := Option.some.inj H
                have p119 : 0 ≤ (x5_1 : Int) := of_decide_eq_true (by first | (with_reducible assumption) | assumption)
                have q119 : x5_1 < (l0.length : Int) := of_decide_eq_true (by first | (with_reducible assumption) | assumption)
                obtain ⟨ad119, A119_0, c119_0, e119, hx119_0, hl119_0, hi119_0⟩ := at_L1 HR0.out x5_1 p119 q119
                cases e119
                have HR119_0 := Aside0.mk hi119_0
                have HC119_0 := Aside0.mk hl119_0
                clear hi119_0 hl119_0
                replace p119 := eq_true p119
                replace q119 := eq_true q119
                have p120 : 0 ≤ (x5_1 : Int) := of_decide_eq_true (by first | (with_reducible assumption) | assumption)
                have q120 : x5_1 < (l1.length : Int) := of_decide_eq_true (by first | (with_reducible assumption) | assumption)
                obtain ⟨ad120, A120_0, c120_0, e120, hx120_0, hl120_0, hi120_0⟩ := at_L1 HR1.out x5_1 p120 q120
                cases e120
                have HR120_0 := Aside0.mk hi120_0
                have HC120_0 := Aside0.mk hl120_0
                clear hi120_0 hl120_0
                replace p120 := eq_true p120
                replace q120 := eq_true q120
                go_wp2
                repeat (go_quiet (fail); try go_wp2)
                go_ret
                exact ⟨by first | rfl | (simp; done) | (simp [*]; done), by repeat (first | exact Drawn0.refl _ | apply Drawn0.step)⟩
            · rw [if_neg c6] at H
              exact absurd H (by simp)
          · rw [if_neg c5] at H
            exact absurd H (by simp)
        · rw [if_neg c4] at H
          have c4b0 : decide (x5_1 < (l0.length : Int)) = false := decide_eq_false c4
          clear c4
          obtain rfl := Option.some.inj H
          go_wp2
          repeat (go_quiet (fail); try go_wp2)
          go_ret
          exact ⟨by first | rfl | (simp; done) | (simp [*]; done), by repeat (first | exact Drawn0.refl _ | apply Drawn0.step)⟩
  · rw [if_neg c3] at H
    have c3b0 : ((l0.length : Int) == (l1.length : Int)) = false := beq_eq_false_iff_ne.mpr c3
    have c3b1 : ((l0.length : Int) != (l1.length : Int)) = true := bne_iff_ne.mpr c3
    have c3b2 : (l0.length == l1.length) = false := by first | simpa using c3 | (simp at c3 ⊢; omega)
    obtain rfl := Option.some.inj H
    go_enter Try.func18, Try.ntmps18
    go_wp2
    repeat (go_quiet (fail); try go_wp2)
    go_ret
    exact ⟨by first | rfl | (simp; done) | (simp [*]; done), by repeat (first | exact Drawn0.refl _ | apply Drawn0.step)⟩

/-! ### laws_FnHiddenOf: function 6 -/
mutual
def laws_FnHiddenOf.j0 : Nat → List (List ByteArray) → List Bool → Bool → Option (Bool)
  | 0, _, _, _ => none
  | k + 1, x0, x1, x16 => if x16 = true then (some true) else (if (x0.length : Int) > 100 then (laws_FnHiddenOf.j1 k x0 x1 true) else (laws_FnHiddenOf.j1 k x0 x1 (decide ((x1.length : Int) > 100))))
def laws_FnHiddenOf.j1 : Nat → List (List ByteArray) → List Bool → Bool → Option (Bool)
  | 0, _, _, _ => none
  | k + 1, x0, x1, x24 => if x24 = true then (some true) else ((impl_HiddenOf.f x0 x1).bind fun bt127 => ((spec_HiddenOf.f k x0 x1).bind fun bt131 => (if bt127.2 = bt131.2 then ((spec_SameGrid.f k bt127.1 bt131.1).bind fun t135 => (some t135)) else (some false))))
end
def laws_FnHiddenOf.f (k : Nat) (l0 : List (List ByteArray)) (l1 : List Bool) : Option (Bool) := (laws_zzFits19.f k l0).bind fun t126 => (if t126 = true then (laws_FnHiddenOf.j0 k l0 l1 (decide ((l1.length : Int) > 2147483647))) else (laws_FnHiddenOf.j0 k l0 l1 true))
theorem laws_FnHiddenOf.mono_l : ∀ k, (∀ y0 y1 y2, LeO (laws_FnHiddenOf.j0 k y0 y1 y2) (laws_FnHiddenOf.j0 (k + 1) y0 y1 y2)) ∧ (∀ y0 y1 y2, LeO (laws_FnHiddenOf.j1 k y0 y1 y2) (laws_FnHiddenOf.j1 (k + 1) y0 y1 y2))
  | 0 => ⟨fun _ _ _ r h => by simp [laws_FnHiddenOf.j0] at h, fun _ _ _ r h => by simp [laws_FnHiddenOf.j1] at h⟩
  | k + 1 => by
    obtain ⟨ih0, ih1⟩ := laws_FnHiddenOf.mono_l k
    refine ⟨?_, ?_⟩
    · intro y0 y1 y2
      unfold laws_FnHiddenOf.j0
      repeat' first
      | (with_reducible exact ih0 _ _ _)
      | (with_reducible exact ih1 _ _ _)
      | (with_reducible exact laws_zzFits19.mono _ _)
      | (with_reducible exact spec_HiddenOf.mono _ _ _)
      | (with_reducible exact spec_SameGrid.mono _ _ _)
      | (with_reducible exact LeO.refl _)
      | (with_reducible exact LeO.none _)
      | (with_reducible refine LeO.ite ?_ ?_)
      | (with_reducible refine LeO.bind ?_ (fun _ => ?_))
      | exact ih0 _ _ _
      | exact ih1 _ _ _
      | exact laws_zzFits19.mono _ _
      | exact spec_HiddenOf.mono _ _ _
      | exact spec_SameGrid.mono _ _ _
      | exact LeO.none _
      | refine LeO.ite ?_ ?_
      | refine LeO.bind ?_ (fun _ => ?_)
    · intro y0 y1 y2
      unfold laws_FnHiddenOf.j1
      repeat' first
      | (with_reducible exact ih0 _ _ _)
      | (with_reducible exact ih1 _ _ _)
      | (with_reducible exact laws_zzFits19.mono _ _)
      | (with_reducible exact spec_HiddenOf.mono _ _ _)
      | (with_reducible exact spec_SameGrid.mono _ _ _)
      | (with_reducible exact LeO.refl _)
      | (with_reducible exact LeO.none _)
      | (with_reducible refine LeO.ite ?_ ?_)
      | (with_reducible refine LeO.bind ?_ (fun _ => ?_))
      | exact ih0 _ _ _
      | exact ih1 _ _ _
      | exact laws_zzFits19.mono _ _
      | exact spec_HiddenOf.mono _ _ _
      | exact spec_SameGrid.mono _ _ _
      | exact LeO.none _
      | refine LeO.ite ?_ ?_
      | refine LeO.bind ?_ (fun _ => ?_)
theorem laws_FnHiddenOf.mono : ∀ a0 a1 k, LeO (laws_FnHiddenOf.f k a0 a1) (laws_FnHiddenOf.f (k + 1) a0 a1) := by
  intro a0 a1 k
  obtain ⟨ih0, ih1⟩ := laws_FnHiddenOf.mono_l k
  unfold laws_FnHiddenOf.f
  repeat' first
      | (with_reducible exact ih0 _ _ _)
      | (with_reducible exact ih1 _ _ _)
      | (with_reducible exact laws_zzFits19.mono _ _)
      | (with_reducible exact spec_HiddenOf.mono _ _ _)
      | (with_reducible exact spec_SameGrid.mono _ _ _)
      | (with_reducible exact LeO.refl _)
      | (with_reducible exact LeO.none _)
      | (with_reducible refine LeO.ite ?_ ?_)
      | (with_reducible refine LeO.bind ?_ (fun _ => ?_))
      | exact ih0 _ _ _
      | exact ih1 _ _ _
      | exact laws_zzFits19.mono _ _
      | exact spec_HiddenOf.mono _ _ _
      | exact spec_SameGrid.mono _ _ _
      | exact LeO.none _
      | refine LeO.ite ?_ ?_
      | refine LeO.bind ?_ (fun _ => ?_)
set_option maxHeartbeats 8000000 in
set_option maxRecDepth 100000 in
theorem laws_FnHiddenOf.calls (k : Nat) (A0 : Option Addr) (c0 : Nat) (l0 : List (List ByteArray)) (A1 : Option Addr) (c1 : Nat) (l1 : List Bool) (r : Bool) (w : World) (hr0 : Kd.C (Kd.slice 9 Kd.string) w A0 l0.length l0) (hc0 : l0.length ≤ c0) (hr1 : Kd.C Kd.bool w A1 l1.length l1) (hc1 : l1.length ≤ c1) (h : laws_FnHiddenOf.f k l0 l1 = some r) :
    Calls Try.prog 6 #[.slice A0 l0.length c0, .slice A1 l1.length c1] w fun e w' => e = .returned (.bool r) ∧ Below w.heap.size w w' := by
  have HR0 := Aside0.mk hr0
  have HC0 := Aside0.mk hc0
  clear hr0 hc0
  have HR1 := Aside0.mk hr1
  have HC1 := Aside0.mk hc1
  clear hr1 hc1
  have HB := Aside0.mk (Below.refl w.heap.size w)
  have H : ((laws_zzFits19.f k l0).bind fun t126 => (if t126 = true then (laws_FnHiddenOf.j0 k l0 l1 (decide ((l1.length : Int) > 2147483647))) else (laws_FnHiddenOf.j0 k l0 l1 true))) = some r := h
  clear h
  have HC3 := Aside0.mk H
  clear H
  go_enter Try.func6, Try.ntmps6
  go_upto_region 1 with (fail)
  go_cut [16] (fun v16 wc => ∃ (kq : Nat) (x16_2 : Bool), v16 = .bool x16_2 ∧ Aside0 (laws_FnHiddenOf.j0 kq l0 l1 x16_2 = some r) ∧ Aside0 (kq ≤ k) ∧ Aside0 (Below w.heap.size w wc))
  case first =>
    have H := HC3.out
    clear HC3
    replace H := Option.bind_eq_some_iff.mp H
    obtain ⟨t126, A40, H⟩ := H
    replace H : (if t126 = true then (laws_FnHiddenOf.j0 k l0 l1 (decide ((l1.length : Int) > 2147483647))) else (laws_FnHiddenOf.j0 k l0 l1 true)) = some r := H
    have A4 := Aside0.mk A40
    clear A40
    by_cases c5 : t126 = true
    · subst c5
      have H1 : (laws_FnHiddenOf.j0 k l0 l1 (decide ((l1.length : Int) > 2147483647))) = some r := by rw [if_pos rfl] at H; exact H
      clear H
      have H := H1
      clear H1
      have H' := Aside0.mk H
      clear H
      go_wp2_with (first | ((with_reducible refine gate_callee (f := 15) rfl ?_); refine goesL_ (some 10) rfl rfl Try.func15 (by kernel_rfl) rfl #[.slice A0 l0.length c0] rfl (by (try simp only [List.map_toArray, List.map_cons, List.map_nil]); first | done | rfl | (simp only [List.length_drop, List.length_take]; rfl)) ?_; (with_reducible refine (laws_zzFits19.calls k _ _ l0 true _ ?side1 ?side2 A4.out).mono ?_); (case side1 => repeat (first | exact (Kd.C_below HR0.out HB.out) | (with_reducible refine Kd.C_alloc ?_ _) | (with_reducible refine Kd.C_drewN ?_ _) | (with_reducible refine Kd.C_drew ?_))); (case side2 => exact HC0.out); rintro e w' ⟨rfl, ⟨nd, rfl⟩⟩; refine ⟨_, rfl, ?_⟩))
      go_meet
      case rel => exact ⟨_, (decide ((l1.length : Int) > 2147483647)), (by first | rfl | (simp; done) | (simp [*]; done)), H', ⟨by first | omega | exact Nat.le_refl _⟩, ⟨by repeat (first | (with_reducible first | exact HB.out | apply below_alloc | apply pw_below_drewN | apply below_drew1) | exact HB.out)⟩⟩
    · replace c5 := Bool.eq_false_iff.mpr c5
      subst c5
      have H1 : (laws_FnHiddenOf.j0 k l0 l1 true) = some r := by rw [if_neg (show ¬ (false = true) by decide)] at H; exact H
      clear H
      have H := H1
      clear H1
      have H' := Aside0.mk H
      clear H
      go_wp2_with (first | ((with_reducible refine gate_callee (f := 15) rfl ?_); refine goesL_ (some 10) rfl rfl Try.func15 (by kernel_rfl) rfl #[.slice A0 l0.length c0] rfl (by (try simp only [List.map_toArray, List.map_cons, List.map_nil]); first | done | rfl | (simp only [List.length_drop, List.length_take]; rfl)) ?_; (with_reducible refine (laws_zzFits19.calls k _ _ l0 false _ ?side1 ?side2 A4.out).mono ?_); (case side1 => repeat (first | exact (Kd.C_below HR0.out HB.out) | (with_reducible refine Kd.C_alloc ?_ _) | (with_reducible refine Kd.C_drewN ?_ _) | (with_reducible refine Kd.C_drew ?_))); (case side2 => exact HC0.out); rintro e w' ⟨rfl, ⟨nd, rfl⟩⟩; refine ⟨_, rfl, ?_⟩))
      go_meet
      case rel => exact ⟨_, (true), (by first | rfl | (simp; done) | (simp [*]; done)), H', ⟨by first | omega | exact Nat.le_refl _⟩, ⟨by repeat (first | (with_reducible first | exact HB.out | apply below_alloc | apply pw_below_drewN | apply below_drew1) | exact HB.out)⟩⟩
  case rest =>
    clear HC3
    try clear c1
    try clear p2
    try clear c5
    obtain ⟨kq, x16_2, rfl, HA, HJ2, HB⟩ := hcut
    cases kq with
    | zero => exact absurd HA.out (by simp [laws_FnHiddenOf.j0])
    | succ kj2 =>
      have H := HA.out
      clear HA
      simp only [laws_FnHiddenOf.j0] at H
      by_cases c6 : x16_2 = true
      · subst c6
        have H1 : (some true) = some r := by rw [if_pos rfl] at H; exact H
        clear H
        have H := H1
        clear H1
        obtain rfl := Option.some.inj H
        go_wp2
        go_ret
        exact ⟨by first | rfl | (simp [errW_none, errW_some] <;> rfl) | (simp [*, errW_none, errW_some] <;> rfl), by repeat (first | (with_reducible first | exact HB.out | apply below_alloc | apply pw_below_drewN | apply below_drew1) | exact HB.out)⟩
      · replace c6 := Bool.eq_false_iff.mpr c6
        subst c6
        have H1 : (if (l0.length : Int) > 100 then (laws_FnHiddenOf.j1 kj2 l0 l1 true) else (laws_FnHiddenOf.j1 kj2 l0 l1 (decide ((l1.length : Int) > 100)))) = some r := by rw [if_neg (show ¬ (false = true) by decide)] at H; exact H
        clear H
        have H := H1
        clear H1
        have HC7 := Aside0.mk H
        clear H
        go_upto_region 3 with (fail)
        go_cut [24] (fun v24 wc => ∃ (kq : Nat) (x24_6 : Bool), v24 = .bool x24_6 ∧ Aside0 (laws_FnHiddenOf.j1 kq l0 l1 x24_6 = some r) ∧ Aside0 (kq ≤ kj2) ∧ Aside0 (Below w.heap.size w wc))
        case first =>
          have H := HC7.out
          clear HC7
          by_cases c8 : (l0.length : Int) > 100
          · rw [if_pos c8] at H
            have c8b0 : decide (100 < (l0.length : Int)) = true := decide_eq_true c8
            have c8b1 : decide (100 < l0.length) = true := decide_eq_true (by omega)
            clear c8
            (first | rw [c8b0] | (simp only [i64_w, i32_w]; rw [c8b0]) | skip)
            have H' := Aside0.mk H
            clear H
            go_wp2
            go_meet
            case rel => exact ⟨_, (true), (by first | rfl | (simp; done) | (simp [*]; done)), H', ⟨by have := HJ2.out; first | omega | exact Nat.le_refl _⟩, ⟨by repeat (first | (with_reducible first | exact HB.out | apply below_alloc | apply pw_below_drewN | apply below_drew1) | exact HB.out)⟩⟩
          · rw [if_neg c8] at H
            have c8b0 : decide (100 < (l0.length : Int)) = false := decide_eq_false c8
            have c8b1 : decide (100 < l0.length) = false := decide_eq_false (by omega)
            clear c8
            (first | rw [c8b0] | (simp only [i64_w, i32_w]; rw [c8b0]) | skip)
            have H' := Aside0.mk H
            clear H
            go_wp2
            go_meet
            case rel => exact ⟨_, (decide ((l1.length : Int) > 100)), (by first | rfl | (simp; done) | (simp [*]; done)), H', ⟨by have := HJ2.out; first | omega | exact Nat.le_refl _⟩, ⟨by repeat (first | (with_reducible first | exact HB.out | apply below_alloc | apply pw_below_drewN | apply below_drew1) | exact HB.out)⟩⟩
        case rest =>
          clear HC7
          try clear c1
          try clear p2
          try clear c5
          try clear c6
          try clear c8
          try clear c8b0
          try clear c8b1
          try clear p2
          obtain ⟨kq, x24_6, rfl, HA, HJ6, HB⟩ := hcut
          cases kq with
          | zero => exact absurd HA.out (by simp [laws_FnHiddenOf.j1])
          | succ kj6 =>
            have H := HA.out
            clear HA
            simp only [laws_FnHiddenOf.j1] at H
            by_cases c9 : x24_6 = true
            · subst c9
              have H1 : (some true) = some r := by rw [if_pos rfl] at H; exact H
              clear H
              have H := H1
              clear H1
              obtain rfl := Option.some.inj H
              go_wp2
              go_ret
              exact ⟨by first | rfl | (simp [errW_none, errW_some] <;> rfl) | (simp [*, errW_none, errW_some] <;> rfl), by repeat (first | (with_reducible first | exact HB.out | apply below_alloc | apply pw_below_drewN | apply below_drew1) | exact HB.out)⟩
            · replace c9 := Bool.eq_false_iff.mpr c9
              subst c9
              have H1 : ((impl_HiddenOf.f l0 l1).bind fun bt127 => ((spec_HiddenOf.f kj6 l0 l1).bind fun bt131 => (if bt127.2 = bt131.2 then ((spec_SameGrid.f kj6 bt127.1 bt131.1).bind fun t135 => (some t135)) else (some false)))) = some r := by rw [if_neg (show ¬ (false = true) by decide)] at H; exact H
              clear H
              have H := H1
              clear H1
              replace H := Option.bind_eq_some_iff.mp H
              obtain ⟨⟨t127, t128⟩, A100, H⟩ := H
              replace H : ((spec_HiddenOf.f kj6 l0 l1).bind fun bt131 => (if t128 = bt131.2 then ((spec_SameGrid.f kj6 t127 bt131.1).bind fun t135 => (some t135)) else (some false))) = some r := H
              have A10 := Aside0.mk A100
              clear A100
              replace H := Option.bind_eq_some_iff.mp H
              obtain ⟨⟨t131, t132⟩, A110, H⟩ := H
              replace H : (if t128 = t132 then ((spec_SameGrid.f kj6 t127 t131).bind fun t135 => (some t135)) else (some false)) = some r := H
              have A11 := Aside0.mk A110
              clear A110
              by_cases c12 : t128 = t132
              · rw [if_pos c12] at H
                have c12b0 : (t128 == t132) = true := beq_iff_eq.mpr c12
                have c12b1 : (t128 != t132) = false := bne_eq_false_iff_eq.mpr c12
                clear c12
                replace H := Option.bind_eq_some_iff.mp H
                obtain ⟨t135, A130, H⟩ := H
                replace H : (some t135) = some r := H
                have A13 := Aside0.mk A130
                clear A130
                obtain rfl := Option.some.inj H
                go_wp2_with (first | ((with_reducible refine gate_callee (f := 16) rfl ?_); refine goesL_ (some 28) rfl rfl Try.func16 (by kernel_rfl) rfl #[.slice A0 l0.length c0, .slice A1 l1.length c1] rfl (by (try simp only [List.map_toArray, List.map_cons, List.map_nil]); first | done | rfl | (simp only [List.length_drop, List.length_take]; rfl)) ?_; (with_reducible refine (impl_HiddenOf.calls _ _ l0 _ _ l1 t127 t128 _ ?side1 ?side2 ?side3 ?side4 A10.out).mono ?_); (case side1 => repeat (first | exact (Kd.C_below HR0.out HB.out) | (with_reducible refine Kd.C_alloc ?_ _) | (with_reducible refine Kd.C_drewN ?_ _) | (with_reducible refine Kd.C_drew ?_))); (case side2 => exact HC0.out); (case side3 => repeat (first | exact (Kd.C_below HR1.out HB.out) | (with_reducible refine Kd.C_alloc ?_ _) | (with_reducible refine Kd.C_drewN ?_ _) | (with_reducible refine Kd.C_drew ?_))); (case side4 => exact HC1.out); rintro e w14 ⟨v129, rfl, ho0, hb⟩; refine ⟨_, rfl, ?_⟩; have n0_ := Aside0.mk (Kd.S_lower ho0 (below_size (by repeat (first | (with_reducible first | exact HB.out | apply below_alloc | apply pw_below_drewN | apply below_drew1) | exact HB.out)))); have n1_ := Aside0.mk (below_step (by repeat (first | (with_reducible first | exact HB.out | apply below_alloc | apply pw_below_drewN | apply below_drew1) | exact HB.out)) hb); clear HB; have HO130 := n0_; have HB := n1_; clear n0_ n1_; (try clear hb); (try clear hb2); (try clear hk); (try clear hi); (try clear ho0)) | ((with_reducible refine gate_callee (f := 17) rfl ?_); refine goesL_ (some 34) rfl rfl Try.func17 (by kernel_rfl) rfl #[.slice A0 l0.length c0, .slice A1 l1.length c1] rfl (by (try simp only [List.map_toArray, List.map_cons, List.map_nil]); first | done | rfl | (simp only [List.length_drop, List.length_take]; rfl)) ?_; (with_reducible refine (spec_HiddenOf.calls kj6 _ _ l0 _ _ l1 t131 t132 _ ?side1 ?side2 ?side3 ?side4 A11.out).mono ?_); (case side1 => repeat (first | exact (Kd.C_below HR0.out HB.out) | (with_reducible refine Kd.C_alloc ?_ _) | (with_reducible refine Kd.C_drewN ?_ _) | (with_reducible refine Kd.C_drew ?_))); (case side2 => exact HC0.out); (case side3 => repeat (first | exact (Kd.C_below HR1.out HB.out) | (with_reducible refine Kd.C_alloc ?_ _) | (with_reducible refine Kd.C_drewN ?_ _) | (with_reducible refine Kd.C_drew ?_))); (case side4 => exact HC1.out); rintro e w15 ⟨v133, rfl, ho0, hb⟩; refine ⟨_, rfl, ?_⟩; have n0_ := Aside0.mk (Kd.S_elder' (by (with_reducible repeat (first | apply Kd.S_alloc | apply Kd.S_drewN | apply Kd.S_drew)); exact HO130.out) (Kd.S_base ho0) hb); have n1_ := Aside0.mk (Kd.S_lower (Kd.S_new' ho0 (Kd.S_lt (by (with_reducible repeat (first | apply Kd.S_alloc | apply Kd.S_drewN | apply Kd.S_drew)); exact HO130.out))) (below_size (by repeat (first | (with_reducible first | exact HB.out | apply below_alloc | apply pw_below_drewN | apply below_drew1) | exact HB.out)))); have n2_ := Aside0.mk (below_step (by repeat (first | (with_reducible first | exact HB.out | apply below_alloc | apply pw_below_drewN | apply below_drew1) | exact HB.out)) hb); clear HO130; clear HB; have HO130 := n0_; have HO134 := n1_; have HB := n2_; clear n0_ n1_ n2_; (try clear hb); (try clear hb2); (try clear hk); (try clear hi); (try clear ho0); obtain ⟨Ao16, co16, eo16⟩ := Kd.S_slice HO130.out; subst eo16; obtain ⟨Ao17, co17, eo17⟩ := Kd.S_slice HO134.out; subst eo17) | (go_at_call 18; (with_reducible refine (spec_SameGrid.calls kj6 _ _ t127 _ _ t131 t135 _ ?side1 ?side2 ?side3 ?side4 A13.out).mono ?_); (case side1 => repeat (first | exact (Kd.S_reads' HO130.out).2.2 | (with_reducible refine Kd.C_alloc ?_ _) | (with_reducible refine Kd.C_drewN ?_ _) | (with_reducible refine Kd.C_drew ?_))); (case side2 => exact (Kd.S_reads' HO130.out).2.1); (case side3 => repeat (first | exact (Kd.S_reads' HO134.out).2.2 | (with_reducible refine Kd.C_alloc ?_ _) | (with_reducible refine Kd.C_drewN ?_ _) | (with_reducible refine Kd.C_drew ?_))); (case side4 => exact (Kd.S_reads' HO134.out).2.1); rintro e w' ⟨rfl, ⟨nd, rfl⟩⟩))
                go_ret
                exact ⟨by first | rfl | (simp [errW_none, errW_some] <;> rfl) | (simp [*, errW_none, errW_some] <;> rfl), by repeat (first | (with_reducible first | exact HB.out | apply below_alloc | apply pw_below_drewN | apply below_drew1) | exact HB.out)⟩
              · rw [if_neg c12] at H
                have c12b0 : (t128 == t132) = false := beq_eq_false_iff_ne.mpr c12
                have c12b1 : (t128 != t132) = true := bne_iff_ne.mpr c12
                obtain rfl := Option.some.inj H
                go_wp2_with (first | ((with_reducible refine gate_callee (f := 16) rfl ?_); refine goesL_ (some 28) rfl rfl Try.func16 (by kernel_rfl) rfl #[.slice A0 l0.length c0, .slice A1 l1.length c1] rfl (by (try simp only [List.map_toArray, List.map_cons, List.map_nil]); first | done | rfl | (simp only [List.length_drop, List.length_take]; rfl)) ?_; (with_reducible refine (impl_HiddenOf.calls _ _ l0 _ _ l1 t127 t128 _ ?side1 ?side2 ?side3 ?side4 A10.out).mono ?_); (case side1 => repeat (first | exact (Kd.C_below HR0.out HB.out) | (with_reducible refine Kd.C_alloc ?_ _) | (with_reducible refine Kd.C_drewN ?_ _) | (with_reducible refine Kd.C_drew ?_))); (case side2 => exact HC0.out); (case side3 => repeat (first | exact (Kd.C_below HR1.out HB.out) | (with_reducible refine Kd.C_alloc ?_ _) | (with_reducible refine Kd.C_drewN ?_ _) | (with_reducible refine Kd.C_drew ?_))); (case side4 => exact HC1.out); rintro e w18 ⟨v129, rfl, ho0, hb⟩; refine ⟨_, rfl, ?_⟩; have n0_ := Aside0.mk (Kd.S_lower ho0 (below_size (by repeat (first | (with_reducible first | exact HB.out | apply below_alloc | apply pw_below_drewN | apply below_drew1) | exact HB.out)))); have n1_ := Aside0.mk (below_step (by repeat (first | (with_reducible first | exact HB.out | apply below_alloc | apply pw_below_drewN | apply below_drew1) | exact HB.out)) hb); clear HB; have HO130 := n0_; have HB := n1_; clear n0_ n1_; (try clear hb); (try clear hb2); (try clear hk); (try clear hi); (try clear ho0)) | ((with_reducible refine gate_callee (f := 17) rfl ?_); refine goesL_ (some 34) rfl rfl Try.func17 (by kernel_rfl) rfl #[.slice A0 l0.length c0, .slice A1 l1.length c1] rfl (by (try simp only [List.map_toArray, List.map_cons, List.map_nil]); first | done | rfl | (simp only [List.length_drop, List.length_take]; rfl)) ?_; (with_reducible refine (spec_HiddenOf.calls kj6 _ _ l0 _ _ l1 t131 t132 _ ?side1 ?side2 ?side3 ?side4 A11.out).mono ?_); (case side1 => repeat (first | exact (Kd.C_below HR0.out HB.out) | (with_reducible refine Kd.C_alloc ?_ _) | (with_reducible refine Kd.C_drewN ?_ _) | (with_reducible refine Kd.C_drew ?_))); (case side2 => exact HC0.out); (case side3 => repeat (first | exact (Kd.C_below HR1.out HB.out) | (with_reducible refine Kd.C_alloc ?_ _) | (with_reducible refine Kd.C_drewN ?_ _) | (with_reducible refine Kd.C_drew ?_))); (case side4 => exact HC1.out); rintro e w19 ⟨v133, rfl, ho0, hb⟩; refine ⟨_, rfl, ?_⟩; have n0_ := Aside0.mk (Kd.S_elder' (by (with_reducible repeat (first | apply Kd.S_alloc | apply Kd.S_drewN | apply Kd.S_drew)); exact HO130.out) (Kd.S_base ho0) hb); have n1_ := Aside0.mk (Kd.S_lower (Kd.S_new' ho0 (Kd.S_lt (by (with_reducible repeat (first | apply Kd.S_alloc | apply Kd.S_drewN | apply Kd.S_drew)); exact HO130.out))) (below_size (by repeat (first | (with_reducible first | exact HB.out | apply below_alloc | apply pw_below_drewN | apply below_drew1) | exact HB.out)))); have n2_ := Aside0.mk (below_step (by repeat (first | (with_reducible first | exact HB.out | apply below_alloc | apply pw_below_drewN | apply below_drew1) | exact HB.out)) hb); clear HO130; clear HB; have HO130 := n0_; have HO134 := n1_; have HB := n2_; clear n0_ n1_ n2_; (try clear hb); (try clear hb2); (try clear hk); (try clear hi); (try clear ho0)))
                go_ret
                exact ⟨by first | rfl | (simp [errW_none, errW_some] <;> rfl) | (simp [*, errW_none, errW_some] <;> rfl), by repeat (first | (with_reducible first | exact HB.out | apply below_alloc | apply pw_below_drewN | apply below_drew1) | exact HB.out)⟩

end Go.Proofs.Ytapbnbinoakbhaa.GFnHiddenOf
