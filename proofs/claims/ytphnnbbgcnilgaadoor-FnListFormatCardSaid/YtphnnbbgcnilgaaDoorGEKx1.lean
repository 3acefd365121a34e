-- printed by a program of this session (gprint.py) out of the translation; Lean checks it
import Derived.Test.YtphnnbbgcnilgaaDoorGEKx0
namespace Go.Proofs.YtphnnbbgcnilgaaDoor.GEK
open Go.RowKit Go.Proofs.YtphnnbbgcnilgaaDoorW.PrintWords Go.Proofs.YtphnnbbgcnilgaaDoorW.PrintLast Go.RowKit Go.Proofs.YtphnnbbgcnilgaaDoorW.PrintMore
attribute [local go_sem] max2_int min2_int max_two min_two max_three min_three max_four min_four   -- for this text's walks alone
set_option linter.unusedVariables false
set_option linter.unusedSimpArgs false

/-! ### spec_TxWide: function 18 -/
def spec_TxWide.f (a0 : Int) : Option (Bool) := if a0 ≥ 12353 then (if a0 ≤ 12438 then (some true) else (if a0 ≥ 12449 then (if a0 ≤ 12538 then (some true) else (if a0 ≥ 19968 then (if a0 ≤ 40869 then (some true) else (if a0 ≥ 44032 then (if a0 ≤ 55203 then (some true) else (if a0 ≥ 65281 then (some (decide (a0 ≤ 65374))) else (some false))) else (if a0 ≥ 65281 then (some (decide (a0 ≤ 65374))) else (some false)))) else (if a0 ≥ 44032 then (if a0 ≤ 55203 then (some true) else (if a0 ≥ 65281 then (some (decide (a0 ≤ 65374))) else (some false))) else (if a0 ≥ 65281 then (some (decide (a0 ≤ 65374))) else (some false))))) else (if a0 ≥ 19968 then (if a0 ≤ 40869 then (some true) else (if a0 ≥ 44032 then (if a0 ≤ 55203 then (some true) else (if a0 ≥ 65281 then (some (decide (a0 ≤ 65374))) else (some false))) else (if a0 ≥ 65281 then (some (decide (a0 ≤ 65374))) else (some false)))) else (if a0 ≥ 44032 then (if a0 ≤ 55203 then (some true) else (if a0 ≥ 65281 then (some (decide (a0 ≤ 65374))) else (some false))) else (if a0 ≥ 65281 then (some (decide (a0 ≤ 65374))) else (some false)))))) else (if a0 ≥ 12449 then (if a0 ≤ 12538 then (some true) else (if a0 ≥ 19968 then (if a0 ≤ 40869 then (some true) else (if a0 ≥ 44032 then (if a0 ≤ 55203 then (some true) else (if a0 ≥ 65281 then (some (decide (a0 ≤ 65374))) else (some false))) else (if a0 ≥ 65281 then (some (decide (a0 ≤ 65374))) else (some false)))) else (if a0 ≥ 44032 then (if a0 ≤ 55203 then (some true) else (if a0 ≥ 65281 then (some (decide (a0 ≤ 65374))) else (some false))) else (if a0 ≥ 65281 then (some (decide (a0 ≤ 65374))) else (some false))))) else (if a0 ≥ 19968 then (if a0 ≤ 40869 then (some true) else (if a0 ≥ 44032 then (if a0 ≤ 55203 then (some true) else (if a0 ≥ 65281 then (some (decide (a0 ≤ 65374))) else (some false))) else (if a0 ≥ 65281 then (some (decide (a0 ≤ 65374))) else (some false)))) else (if a0 ≥ 44032 then (if a0 ≤ 55203 then (some true) else (if a0 ≥ 65281 then (some (decide (a0 ≤ 65374))) else (some false))) else (if a0 ≥ 65281 then (some (decide (a0 ≤ 65374))) else (some false)))))
set_option maxHeartbeats 8000000 in
set_option maxRecDepth 100000 in
theorem spec_TxWide.calls (a0 : Int) (r : Bool) (w : World) (h : spec_TxWide.f a0 = some r) :
    Calls Tryd.prog 18 #[.int .i32 a0] w fun e w' => e = .returned (.bool r) ∧ Drawn0 w w' := by
  have H : (if a0 ≥ 12353 then (if a0 ≤ 12438 then (some true) else (if a0 ≥ 12449 then (if a0 ≤ 12538 then (some true) else (if a0 ≥ 19968 then (if a0 ≤ 40869 then (some true) else (if a0 ≥ 44032 then (if a0 ≤ 55203 then (some true) else (if a0 ≥ 65281 then (some (decide (a0 ≤ 65374))) else (some false))) else (if a0 ≥ 65281 then (some (decide (a0 ≤ 65374))) else (some false)))) else (if a0 ≥ 44032 then (if a0 ≤ 55203 then (some true) else (if a0 ≥ 65281 then (some (decide (a0 ≤ 65374))) else (some false))) else (if a0 ≥ 65281 then (some (decide (a0 ≤ 65374))) else (some false))))) else (if a0 ≥ 19968 then (if a0 ≤ 40869 then (some true) else (if a0 ≥ 44032 then (if a0 ≤ 55203 then (some true) else (if a0 ≥ 65281 then (some (decide (a0 ≤ 65374))) else (some false))) else (if a0 ≥ 65281 then (some (decide (a0 ≤ 65374))) else (some false)))) else (if a0 ≥ 44032 then (if a0 ≤ 55203 then (some true) else (if a0 ≥ 65281 then (some (decide (a0 ≤ 65374))) else (some false))) else (if a0 ≥ 65281 then (some (decide (a0 ≤ 65374))) else (some false)))))) else (if a0 ≥ 12449 then (if a0 ≤ 12538 then (some true) else (if a0 ≥ 19968 then (if a0 ≤ 40869 then (some true) else (if a0 ≥ 44032 then (if a0 ≤ 55203 then (some true) else (if a0 ≥ 65281 then (some (decide (a0 ≤ 65374))) else (some false))) else (if a0 ≥ 65281 then (some (decide (a0 ≤ 65374))) else (some false)))) else (if a0 ≥ 44032 then (if a0 ≤ 55203 then (some true) else (if a0 ≥ 65281 then (some (decide (a0 ≤ 65374))) else (some false))) else (if a0 ≥ 65281 then (some (decide (a0 ≤ 65374))) else (some false))))) else (if a0 ≥ 19968 then (if a0 ≤ 40869 then (some true) else (if a0 ≥ 44032 then (if a0 ≤ 55203 then (some true) else (if a0 ≥ 65281 then (some (decide (a0 ≤ 65374))) else (some false))) else (if a0 ≥ 65281 then (some (decide (a0 ≤ 65374))) else (some false)))) else (if a0 ≥ 44032 then (if a0 ≤ 55203 then (some true) else (if a0 ≥ 65281 then (some (decide (a0 ≤ 65374))) else (some false))) else (if a0 ≥ 65281 then (some (decide (a0 ≤ 65374))) else (some false)))))) = some r := h
  clear h
  by_cases c2 : a0 ≥ 12353
  · rw [if_pos c2] at H
    have c2b0 : decide (12353 ≤ a0) = true := decide_eq_true c2
    clear c2
    by_cases c3 : a0 ≤ 12438
    · rw [if_pos c3] at H
      have c3b0 : decide (a0 ≤ 12438) = true := decide_eq_true c3
      clear c3
      obtain rfl := Option.some.inj H
      go_enter Tryd.func18, Tryd.ntmps18
      go_wp2
      go_ret
      exact ⟨by first | rfl | (simp; done) | (simp [*]; done), by repeat (first | exact Drawn0.refl _ | apply Drawn0.step)⟩
    · rw [if_neg c3] at H
      have c3b0 : decide (a0 ≤ 12438) = false := decide_eq_false c3
      clear c3
      by_cases c4 : a0 ≥ 12449
      · rw [if_pos c4] at H
        have c4b0 : decide (12449 ≤ a0) = true := decide_eq_true c4
        clear c4
        by_cases c5 : a0 ≤ 12538
        · rw [if_pos c5] at H
          have c5b0 : decide (a0 ≤ 12538) = true := decide_eq_true c5
          clear c5
          obtain rfl := Option.some.inj H
          go_enter Tryd.func18, Tryd.ntmps18
          go_wp2
          go_ret
          exact ⟨by first | rfl | (simp; done) | (simp [*]; done), by repeat (first | exact Drawn0.refl _ | apply Drawn0.step)⟩
        · rw [if_neg c5] at H
          have c5b0 : decide (a0 ≤ 12538) = false := decide_eq_false c5
          clear c5
          by_cases c6 : a0 ≥ 19968
          · rw [if_pos c6] at H
            have c6b0 : decide (19968 ≤ a0) = true := decide_eq_true c6
            clear c6
            by_cases c7 : a0 ≤ 40869
            · rw [if_pos c7] at H
              have c7b0 : decide (a0 ≤ 40869) = true := decide_eq_true c7
              clear c7
              obtain rfl := Option.some.inj H
              go_enter Tryd.func18, Tryd.ntmps18
              go_wp2
              go_ret
              exact ⟨by first | rfl | (simp; done) | (simp [*]; done), by repeat (first | exact Drawn0.refl _ | apply Drawn0.step)⟩
            · rw [if_neg c7] at H
              have c7b0 : decide (a0 ≤ 40869) = false := decide_eq_false c7
              clear c7
              by_cases c8 : a0 ≥ 44032
              · rw [if_pos c8] at H
                have c8b0 : decide (44032 ≤ a0) = true := decide_eq_true c8
                clear c8
                by_cases c9 : a0 ≤ 55203
                · rw [if_pos c9] at H
                  have c9b0 : decide (a0 ≤ 55203) = true := decide_eq_true c9
                  clear c9
                  obtain rfl := Option.some.inj H
                  go_enter Tryd.func18, Tryd.ntmps18
                  go_wp2
                  go_ret
                  exact ⟨by first | rfl | (simp; done) | (simp [*]; done), by repeat (first | exact Drawn0.refl _ | apply Drawn0.step)⟩
                · rw [if_neg c9] at H
                  have c9b0 : decide (a0 ≤ 55203) = false := decide_eq_false c9
                  clear c9
                  by_cases c10 : a0 ≥ 65281
                  · rw [if_pos c10] at H
                    have c10b0 : decide (65281 ≤ a0) = true := decide_eq_true c10
                    clear c10
                    obtain rfl := Option.some.inj H
                    go_enter Tryd.func18, Tryd.ntmps18
                    go_wp2
                    go_ret
                    exact ⟨by first | rfl | (simp; done) | (simp [*]; done), by repeat (first | exact Drawn0.refl _ | apply Drawn0.step)⟩
                  · rw [if_neg c10] at H
                    have c10b0 : decide (65281 ≤ a0) = false := decide_eq_false c10
                    clear c10
                    obtain rfl := Option.some.inj H
                    go_enter Tryd.func18, Tryd.ntmps18
                    go_wp2
                    go_ret
                    exact ⟨by first | rfl | (simp; done) | (simp [*]; done), by repeat (first | exact Drawn0.refl _ | apply Drawn0.step)⟩
              · rw [if_neg c8] at H
                have c8b0 : decide (44032 ≤ a0) = false := decide_eq_false c8
                clear c8
                by_cases c11 : a0 ≥ 65281
                · rw [if_pos c11] at H
                  have c11b0 : decide (65281 ≤ a0) = true := decide_eq_true c11
                  clear c11
                  obtain rfl := Option.some.inj H
                  go_enter Tryd.func18, Tryd.ntmps18
                  go_wp2
                  go_ret
                  exact ⟨by first | rfl | (simp; done) | (simp [*]; done), by repeat (first | exact Drawn0.refl _ | apply Drawn0.step)⟩
                · rw [if_neg c11] at H
                  have c11b0 : decide (65281 ≤ a0) = false := decide_eq_false c11
                  clear c11
                  obtain rfl := Option.some.inj H
                  go_enter Tryd.func18, Tryd.ntmps18
                  go_wp2
                  go_ret
                  exact ⟨by first | rfl | (simp; done) | (simp [*]; done), by repeat (first | exact Drawn0.refl _ | apply Drawn0.step)⟩
          · rw [if_neg c6] at H
            have c6b0 : decide (19968 ≤ a0) = false := decide_eq_false c6
            clear c6
            by_cases c12 : a0 ≥ 44032
            · rw [if_pos c12] at H
              have c12b0 : decide (44032 ≤ a0) = true := decide_eq_true c12
              clear c12
              by_cases c13 : a0 ≤ 55203
              · rw [if_pos c13] at H
                have c13b0 : decide (a0 ≤ 55203) = true := decide_eq_true c13
                clear c13
                obtain rfl := Option.some.inj H
                go_enter Tryd.func18, Tryd.ntmps18
                go_wp2
                go_ret
                exact ⟨by first | rfl | (simp; done) | (simp [*]; done), by repeat (first | exact Drawn0.refl _ | apply Drawn0.step)⟩
              · rw [if_neg c13] at H
                have c13b0 : decide (a0 ≤ 55203) = false := decide_eq_false c13
                clear c13
                by_cases c14 : a0 ≥ 65281
                · rw [if_pos c14] at H
                  have c14b0 : decide (65281 ≤ a0) = true := decide_eq_true c14
                  clear c14
                  obtain rfl := Option.some.inj H
                  go_enter Tryd.func18, Tryd.ntmps18
                  go_wp2
                  go_ret
                  exact ⟨by first | rfl | (simp; done) | (simp [*]; done), by repeat (first | exact Drawn0.refl _ | apply Drawn0.step)⟩
                · rw [if_neg c14] at H
                  have c14b0 : decide (65281 ≤ a0) = false := decide_eq_false c14
                  clear c14
                  obtain rfl := Option.some.inj H
                  go_enter Tryd.func18, Tryd.ntmps18
                  go_wp2
                  go_ret
                  exact ⟨by first | rfl | (simp; done) | (simp [*]; done), by repeat (first | exact Drawn0.refl _ | apply Drawn0.step)⟩
            · rw [if_neg c12] at H
              have c12b0 : decide (44032 ≤ a0) = false := decide_eq_false c12
              clear c12
              by_cases c15 : a0 ≥ 65281
              · rw [if_pos c15] at H
                have c15b0 : decide (65281 ≤ a0) = true := decide_eq_true c15
                clear c15
                obtain rfl := Option.some.inj H
                go_enter Tryd.func18, Tryd.ntmps18
                go_wp2
                go_ret
                exact ⟨by first | rfl | (simp; done) | (simp [*]; done), by repeat (first | exact Drawn0.refl _ | apply Drawn0.step)⟩
              · rw [if_neg c15] at H
                have c15b0 : decide (65281 ≤ a0) = false := decide_eq_false c15
                clear c15
                obtain rfl := Option.some.inj H
                go_enter Tryd.func18, Tryd.ntmps18
                go_wp2
                go_ret
                exact ⟨by first | rfl | (simp; done) | (simp [*]; done), by repeat (first | exact Drawn0.refl _ | apply Drawn0.step)⟩
      · rw [if_neg c4] at H
        have c4b0 : decide (12449 ≤ a0) = false := decide_eq_false c4
        clear c4
        by_cases c16 : a0 ≥ 19968
        · rw [if_pos c16] at H
          have c16b0 : decide (19968 ≤ a0) = true := decide_eq_true c16
          clear c16
          by_cases c17 : a0 ≤ 40869
          · rw [if_pos c17] at H
            have c17b0 : decide (a0 ≤ 40869) = true := decide_eq_true c17
            clear c17
            obtain rfl := Option.some.inj H
            go_enter Tryd.func18, Tryd.ntmps18
            go_wp2
            go_ret
            exact ⟨by first | rfl | (simp; done) | (simp [*]; done), by repeat (first | exact Drawn0.refl _ | apply Drawn0.step)⟩
          · rw [if_neg c17] at H
            have c17b0 : decide (a0 ≤ 40869) = false := decide_eq_false c17
            clear c17
            by_cases c18 : a0 ≥ 44032
            · rw [if_pos c18] at H
              have c18b0 : decide (44032 ≤ a0) = true := decide_eq_true c18
              clear c18
              by_cases c19 : a0 ≤ 55203
              · rw [if_pos c19] at H
                have c19b0 : decide (a0 ≤ 55203) = true := decide_eq_true c19
                clear c19
                obtain rfl := Option.some.inj H
                go_enter Tryd.func18, Tryd.ntmps18
                go_wp2
                go_ret
                exact ⟨by first | rfl | (simp; done) | (simp [*]; done), by repeat (first | exact Drawn0.refl _ | apply Drawn0.step)⟩
              · rw [if_neg c19] at H
                have c19b0 : decide (a0 ≤ 55203) = false := decide_eq_false c19
                clear c19
                by_cases c20 : a0 ≥ 65281
                · rw [if_pos c20] at H
                  have c20b0 : decide (65281 ≤ a0) = true := decide_eq_true c20
                  clear c20
                  obtain rfl := Option.some.inj H
                  go_enter Tryd.func18, Tryd.ntmps18
                  go_wp2
                  go_ret
                  exact ⟨by first | rfl | (simp; done) | (simp [*]; done), by repeat (first | exact Drawn0.refl _ | apply Drawn0.step)⟩
                · rw [if_neg c20] at H
                  have c20b0 : decide (65281 ≤ a0) = false := decide_eq_false c20
                  clear c20
                  obtain rfl := Option.some.inj H
                  go_enter Tryd.func18, Tryd.ntmps18
                  go_wp2
                  go_ret
                  exact ⟨by first | rfl | (simp; done) | (simp [*]; done), by repeat (first | exact Drawn0.refl _ | apply Drawn0.step)⟩
            · rw [if_neg c18] at H
              have c18b0 : decide (44032 ≤ a0) = false := decide_eq_false c18
              clear c18
              by_cases c21 : a0 ≥ 65281
              · rw [if_pos c21] at H
                have c21b0 : decide (65281 ≤ a0) = true := decide_eq_true c21
                clear c21
                obtain rfl := Option.some.inj H
                go_enter Tryd.func18, Tryd.ntmps18
                go_wp2
                go_ret
                exact ⟨by first | rfl | (simp; done) | (simp [*]; done), by repeat (first | exact Drawn0.refl _ | apply Drawn0.step)⟩
              · rw [if_neg c21] at H
                have c21b0 : decide (65281 ≤ a0) = false := decide_eq_false c21
                clear c21
                obtain rfl := Option.some.inj H
                go_enter Tryd.func18, Tryd.ntmps18
                go_wp2
                go_ret
                exact ⟨by first | rfl | (simp; done) | (simp [*]; done), by repeat (first | exact Drawn0.refl _ | apply Drawn0.step)⟩
        · rw [if_neg c16] at H
          have c16b0 : decide (19968 ≤ a0) = false := decide_eq_false c16
          clear c16
          by_cases c22 : a0 ≥ 44032
          · rw [if_pos c22] at H
            have c22b0 : decide (44032 ≤ a0) = true := decide_eq_true c22
            clear c22
            by_cases c23 : a0 ≤ 55203
            · rw [if_pos c23] at H
              have c23b0 : decide (a0 ≤ 55203) = true := decide_eq_true c23
              clear c23
              obtain rfl := Option.some.inj H
              go_enter Tryd.func18, Tryd.ntmps18
              go_wp2
              go_ret
              exact ⟨by first | rfl | (simp; done) | (simp [*]; done), by repeat (first | exact Drawn0.refl _ | apply Drawn0.step)⟩
            · rw [if_neg c23] at H
              have c23b0 : decide (a0 ≤ 55203) = false := decide_eq_false c23
              clear c23
              by_cases c24 : a0 ≥ 65281
              · rw [if_pos c24] at H
                have c24b0 : decide (65281 ≤ a0) = true := decide_eq_true c24
                clear c24
                obtain rfl := Option.some.inj H
                go_enter Tryd.func18, Tryd.ntmps18
                go_wp2
                go_ret
                exact ⟨by first | rfl | (simp; done) | (simp [*]; done), by repeat (first | exact Drawn0.refl _ | apply Drawn0.step)⟩
              · rw [if_neg c24] at H
                have c24b0 : decide (65281 ≤ a0) = false := decide_eq_false c24
                clear c24
                obtain rfl := Option.some.inj H
                go_enter Tryd.func18, Tryd.ntmps18
                go_wp2
                go_ret
                exact ⟨by first | rfl | (simp; done) | (simp [*]; done), by repeat (first | exact Drawn0.refl _ | apply Drawn0.step)⟩
          · rw [if_neg c22] at H
            have c22b0 : decide (44032 ≤ a0) = false := decide_eq_false c22
            clear c22
            by_cases c25 : a0 ≥ 65281
            · rw [if_pos c25] at H
              have c25b0 : decide (65281 ≤ a0) = true := decide_eq_true c25
              clear c25
              obtain rfl := Option.some.inj H
              go_enter Tryd.func18, Tryd.ntmps18
              go_wp2
              go_ret
              exact ⟨by first | rfl | (simp; done) | (simp [*]; done), by repeat (first | exact Drawn0.refl _ | apply Drawn0.step)⟩
            · rw [if_neg c25] at H
              have c25b0 : decide (65281 ≤ a0) = false := decide_eq_false c25
              clear c25
              obtain rfl := Option.some.inj H
              go_enter Tryd.func18, Tryd.ntmps18
              go_wp2
              go_ret
              exact ⟨by first | rfl | (simp; done) | (simp [*]; done), by repeat (first | exact Drawn0.refl _ | apply Drawn0.step)⟩
  · rw [if_neg c2] at H
    have c2b0 : decide (12353 ≤ a0) = false := decide_eq_false c2
    clear c2
    by_cases c26 : a0 ≥ 12449
    · rw [if_pos c26] at H
      have c26b0 : decide (12449 ≤ a0) = true := decide_eq_true c26
      clear c26
      by_cases c27 : a0 ≤ 12538
      · rw [if_pos c27] at H
        have c27b0 : decide (a0 ≤ 12538) = true := decide_eq_true c27
        clear c27
        obtain rfl := Option.some.inj H
        go_enter Tryd.func18, Tryd.ntmps18
        go_wp2
        go_ret
        exact ⟨by first | rfl | (simp; done) | (simp [*]; done), by repeat (first | exact Drawn0.refl _ | apply Drawn0.step)⟩
      · rw [if_neg c27] at H
        have c27b0 : decide (a0 ≤ 12538) = false := decide_eq_false c27
        clear c27
        by_cases c28 : a0 ≥ 19968
        · rw [if_pos c28] at H
          have c28b0 : decide (19968 ≤ a0) = true := decide_eq_true c28
          clear c28
          by_cases c29 : a0 ≤ 40869
          · rw [if_pos c29] at H
            have c29b0 : decide (a0 ≤ 40869) = true := decide_eq_true c29
            clear c29
            obtain rfl := Option.some.inj H
            go_enter Tryd.func18, Tryd.ntmps18
            go_wp2
            go_ret
            exact ⟨by first | rfl | (simp; done) | (simp [*]; done), by repeat (first | exact Drawn0.refl _ | apply Drawn0.step)⟩
          · rw [if_neg c29] at H
            have c29b0 : decide (a0 ≤ 40869) = false := decide_eq_false c29
            clear c29
            by_cases c30 : a0 ≥ 44032
            · rw [if_pos c30] at H
              have c30b0 : decide (44032 ≤ a0) = true := decide_eq_true c30
              clear c30
              by_cases c31 : a0 ≤ 55203
              · rw [if_pos c31] at H
                have c31b0 : decide (a0 ≤ 55203) = true := decide_eq_true c31
                clear c31
                obtain rfl := Option.some.inj H
                go_enter Tryd.func18, Tryd.ntmps18
                go_wp2
                go_ret
                exact ⟨by first | rfl | (simp; done) | (simp [*]; done), by repeat (first | exact Drawn0.refl _ | apply Drawn0.step)⟩
              · rw [if_neg c31] at H
                have c31b0 : decide (a0 ≤ 55203) = false := decide_eq_false c31
                clear c31
                by_cases c32 : a0 ≥ 65281
                · rw [if_pos c32] at H
                  have c32b0 : decide (65281 ≤ a0) = true := decide_eq_true c32
                  clear c32
                  obtain rfl := Option.some.inj H
                  go_enter Tryd.func18, Tryd.ntmps18
                  go_wp2
                  go_ret
                  exact ⟨by first | rfl | (simp; done) | (simp [*]; done), by repeat (first | exact Drawn0.refl _ | apply Drawn0.step)⟩
                · rw [if_neg c32] at H
                  have c32b0 : decide (65281 ≤ a0) = false := decide_eq_false c32
                  clear c32
                  obtain rfl := Option.some.inj H
                  go_enter Tryd.func18, Tryd.ntmps18
                  go_wp2
                  go_ret
                  exact ⟨by first | rfl | (simp; done) | (simp [*]; done), by repeat (first | exact Drawn0.refl _ | apply Drawn0.step)⟩
            · rw [if_neg c30] at H
              have c30b0 : decide (44032 ≤ a0) = false := decide_eq_false c30
              clear c30
              by_cases c33 : a0 ≥ 65281
              · rw [if_pos c33] at H
                have c33b0 : decide (65281 ≤ a0) = true := decide_eq_true c33
                clear c33
                obtain rfl := Option.some.inj H
                go_enter Tryd.func18, Tryd.ntmps18
                go_wp2
                go_ret
                exact ⟨by first | rfl | (simp; done) | (simp [*]; done), by repeat (first | exact Drawn0.refl _ | apply Drawn0.step)⟩
              · rw [if_neg c33] at H
                have c33b0 : decide (65281 ≤ a0) = false := decide_eq_false c33
                clear c33
                obtain rfl := Option.some.inj H
                go_enter Tryd.func18, Tryd.ntmps18
                go_wp2
                go_ret
                exact ⟨by first | rfl | (simp; done) | (simp [*]; done), by repeat (first | exact Drawn0.refl _ | apply Drawn0.step)⟩
        · rw [if_neg c28] at H
          have c28b0 : decide (19968 ≤ a0) = false := decide_eq_false c28
          clear c28
          by_cases c34 : a0 ≥ 44032
          · rw [if_pos c34] at H
            have c34b0 : decide (44032 ≤ a0) = true := decide_eq_true c34
            clear c34
            by_cases c35 : a0 ≤ 55203
            · rw [if_pos c35] at H
              have c35b0 : decide (a0 ≤ 55203) = true := decide_eq_true c35
              clear c35
              obtain rfl := Option.some.inj H
              go_enter Tryd.func18, Tryd.ntmps18
              go_wp2
              go_ret
              exact ⟨by first | rfl | (simp; done) | (simp [*]; done), by repeat (first | exact Drawn0.refl _ | apply Drawn0.step)⟩
            · rw [if_neg c35] at H
              have c35b0 : decide (a0 ≤ 55203) = false := decide_eq_false c35
              clear c35
              by_cases c36 : a0 ≥ 65281
              · rw [if_pos c36] at H
                have c36b0 : decide (65281 ≤ a0) = true := decide_eq_true c36
                clear c36
                obtain rfl := Option.some.inj H
                go_enter Tryd.func18, Tryd.ntmps18
                go_wp2
                go_ret
                exact ⟨by first | rfl | (simp; done) | (simp [*]; done), by repeat (first | exact Drawn0.refl _ | apply Drawn0.step)⟩
              · rw [if_neg c36] at H
                have c36b0 : decide (65281 ≤ a0) = false := decide_eq_false c36
                clear c36
                obtain rfl := Option.some.inj H
                go_enter Tryd.func18, Tryd.ntmps18
                go_wp2
                go_ret
                exact ⟨by first | rfl | (simp; done) | (simp [*]; done), by repeat (first | exact Drawn0.refl _ | apply Drawn0.step)⟩
          · rw [if_neg c34] at H
            have c34b0 : decide (44032 ≤ a0) = false := decide_eq_false c34
            clear c34
            by_cases c37 : a0 ≥ 65281
            · rw [if_pos c37] at H
              have c37b0 : decide (65281 ≤ a0) = true := decide_eq_true c37
              clear c37
              obtain rfl := Option.some.inj H
              go_enter Tryd.func18, Tryd.ntmps18
              go_wp2
              go_ret
              exact ⟨by first | rfl | (simp; done) | (simp [*]; done), by repeat (first | exact Drawn0.refl _ | apply Drawn0.step)⟩
            · rw [if_neg c37] at H
              have c37b0 : decide (65281 ≤ a0) = false := decide_eq_false c37
              clear c37
              obtain rfl := Option.some.inj H
              go_enter Tryd.func18, Tryd.ntmps18
              go_wp2
              go_ret
              exact ⟨by first | rfl | (simp; done) | (simp [*]; done), by repeat (first | exact Drawn0.refl _ | apply Drawn0.step)⟩
    · rw [if_neg c26] at H
      have c26b0 : decide (12449 ≤ a0) = false := decide_eq_false c26
      clear c26
      by_cases c38 : a0 ≥ 19968
      · rw [if_pos c38] at H
        have c38b0 : decide (19968 ≤ a0) = true := decide_eq_true c38
        clear c38
        by_cases c39 : a0 ≤ 40869
        · rw [if_pos c39] at H
          have c39b0 : decide (a0 ≤ 40869) = true := decide_eq_true c39
          clear c39
          obtain rfl := Option.some.inj H
          go_enter Tryd.func18, Tryd.ntmps18
          go_wp2
          go_ret
          exact ⟨by first | rfl | (simp; done) | (simp [*]; done), by repeat (first | exact Drawn0.refl _ | apply Drawn0.step)⟩
        · rw [if_neg c39] at H
          have c39b0 : decide (a0 ≤ 40869) = false := decide_eq_false c39
          clear c39
          by_cases c40 : a0 ≥ 44032
          · rw [if_pos c40] at H
            have c40b0 : decide (44032 ≤ a0) = true := decide_eq_true c40
            clear c40
            by_cases c41 : a0 ≤ 55203
            · rw [if_pos c41] at H
              have c41b0 : decide (a0 ≤ 55203) = true := decide_eq_true c41
              clear c41
              obtain rfl := Option.some.inj H
              go_enter Tryd.func18, Tryd.ntmps18
              go_wp2
              go_ret
              exact ⟨by first | rfl | (simp; done) | (simp [*]; done), by repeat (first | exact Drawn0.refl _ | apply Drawn0.step)⟩
            · rw [if_neg c41] at H
              have c41b0 : decide (a0 ≤ 55203) = false := decide_eq_false c41
              clear c41
              by_cases c42 : a0 ≥ 65281
              · rw [if_pos c42] at H
                have c42b0 : decide (65281 ≤ a0) = true := decide_eq_true c42
                clear c42
                obtain rfl := Option.some.inj H
                go_enter Tryd.func18, Tryd.ntmps18
                go_wp2
                go_ret
                exact ⟨by first | rfl | (simp; done) | (simp [*]; done), by repeat (first | exact Drawn0.refl _ | apply Drawn0.step)⟩
              · rw [if_neg c42] at H
                have c42b0 : decide (65281 ≤ a0) = false := decide_eq_false c42
                clear c42
                obtain rfl := Option.some.inj H
                go_enter Tryd.func18, Tryd.ntmps18
                go_wp2
                go_ret
                exact ⟨by first | rfl | (simp; done) | (simp [*]; done), by repeat (first | exact Drawn0.refl _ | apply Drawn0.step)⟩
          · rw [if_neg c40] at H
            have c40b0 : decide (44032 ≤ a0) = false := decide_eq_false c40
            clear c40
            by_cases c43 : a0 ≥ 65281
            · rw [if_pos c43] at H
              have c43b0 : decide (65281 ≤ a0) = true := decide_eq_true c43
              clear c43
              obtain rfl := Option.some.inj H
              go_enter Tryd.func18, Tryd.ntmps18
              go_wp2
              go_ret
              exact ⟨by first | rfl | (simp; done) | (simp [*]; done), by repeat (first | exact Drawn0.refl _ | apply Drawn0.step)⟩
            · rw [if_neg c43] at H
              have c43b0 : decide (65281 ≤ a0) = false := decide_eq_false c43
              clear c43
              obtain rfl := Option.some.inj H
              go_enter Tryd.func18, Tryd.ntmps18
              go_wp2
              go_ret
              exact ⟨by first | rfl | (simp; done) | (simp [*]; done), by repeat (first | exact Drawn0.refl _ | apply Drawn0.step)⟩
      · rw [if_neg c38] at H
        have c38b0 : decide (19968 ≤ a0) = false := decide_eq_false c38
        clear c38
        by_cases c44 : a0 ≥ 44032
        · rw [if_pos c44] at H
          have c44b0 : decide (44032 ≤ a0) = true := decide_eq_true c44
          clear c44
          by_cases c45 : a0 ≤ 55203
          · rw [if_pos c45] at H
            have c45b0 : decide (a0 ≤ 55203) = true := decide_eq_true c45
            clear c45
            obtain rfl := Option.some.inj H
            go_enter Tryd.func18, Tryd.ntmps18
            go_wp2
            go_ret
            exact ⟨by first | rfl | (simp; done) | (simp [*]; done), by repeat (first | exact Drawn0.refl _ | apply Drawn0.step)⟩
          · rw [if_neg c45] at H
            have c45b0 : decide (a0 ≤ 55203) = false := decide_eq_false c45
            clear c45
            by_cases c46 : a0 ≥ 65281
            · rw [if_pos c46] at H
              have c46b0 : decide (65281 ≤ a0) = true := decide_eq_true c46
              clear c46
              obtain rfl := Option.some.inj H
              go_enter Tryd.func18, Tryd.ntmps18
              go_wp2
              go_ret
              exact ⟨by first | rfl | (simp; done) | (simp [*]; done), by repeat (first | exact Drawn0.refl _ | apply Drawn0.step)⟩
            · rw [if_neg c46] at H
              have c46b0 : decide (65281 ≤ a0) = false := decide_eq_false c46
              clear c46
              obtain rfl := Option.some.inj H
              go_enter Tryd.func18, Tryd.ntmps18
              go_wp2
              go_ret
              exact ⟨by first | rfl | (simp; done) | (simp [*]; done), by repeat (first | exact Drawn0.refl _ | apply Drawn0.step)⟩
        · rw [if_neg c44] at H
          have c44b0 : decide (44032 ≤ a0) = false := decide_eq_false c44
          clear c44
          by_cases c47 : a0 ≥ 65281
          · rw [if_pos c47] at H
            have c47b0 : decide (65281 ≤ a0) = true := decide_eq_true c47
            clear c47
            obtain rfl := Option.some.inj H
            go_enter Tryd.func18, Tryd.ntmps18
            go_wp2
            go_ret
            exact ⟨by first | rfl | (simp; done) | (simp [*]; done), by repeat (first | exact Drawn0.refl _ | apply Drawn0.step)⟩
          · rw [if_neg c47] at H
            have c47b0 : decide (65281 ≤ a0) = false := decide_eq_false c47
            clear c47
            obtain rfl := Option.some.inj H
            go_enter Tryd.func18, Tryd.ntmps18
            go_wp2
            go_ret
            exact ⟨by first | rfl | (simp; done) | (simp [*]; done), by repeat (first | exact Drawn0.refl _ | apply Drawn0.step)⟩

/-! ### spec_TxBoxed: function 44 -/
def spec_TxBoxed.f (a0 : Int) : Option (Bool) := if a0 ≥ 9472 then (some (decide (a0 ≤ 9631))) else (some false)
set_option maxHeartbeats 8000000 in
set_option maxRecDepth 100000 in
theorem spec_TxBoxed.calls (a0 : Int) (r : Bool) (w : World) (h : spec_TxBoxed.f a0 = some r) :
    Calls Tryd.prog 44 #[.int .i32 a0] w fun e w' => e = .returned (.bool r) ∧ Drawn0 w w' := by
  have H : (if a0 ≥ 9472 then (some (decide (a0 ≤ 9631))) else (some false)) = some r := h
  clear h
  by_cases c2 : a0 ≥ 9472
  · rw [if_pos c2] at H
    have c2b0 : decide (9472 ≤ a0) = true := decide_eq_true c2
    clear c2
    obtain rfl := Option.some.inj H
    go_enter Tryd.func44, Tryd.ntmps44
    go_wp2
    go_ret
    exact ⟨by first | rfl | (simp; done) | (simp [*]; done), by repeat (first | exact Drawn0.refl _ | apply Drawn0.step)⟩
  · rw [if_neg c2] at H
    have c2b0 : decide (9472 ≤ a0) = false := decide_eq_false c2
    clear c2
    obtain rfl := Option.some.inj H
    go_enter Tryd.func44, Tryd.ntmps44
    go_wp2
    go_ret
    exact ⟨by first | rfl | (simp; done) | (simp [*]; done), by repeat (first | exact Drawn0.refl _ | apply Drawn0.step)⟩

/-! ### spec_TxKnown: function 28 -/
def spec_TxKnown.f (a0 : Int) : Option (Bool) := if a0 ≥ 32 then (if a0 ≤ 126 then (some true) else ((spec_TxBoxed.f a0).bind fun t101 => (if t101 = true then (some true) else ((spec_TxWide.f a0).bind fun t102 => (some t102))))) else ((spec_TxBoxed.f a0).bind fun t103 => (if t103 = true then (some true) else ((spec_TxWide.f a0).bind fun t104 => (some t104))))
set_option maxHeartbeats 8000000 in
set_option maxRecDepth 100000 in
theorem spec_TxKnown.calls (a0 : Int) (r : Bool) (w : World) (h : spec_TxKnown.f a0 = some r) :
    Calls Tryd.prog 28 #[.int .i32 a0] w fun e w' => e = .returned (.bool r) ∧ Drawn0 w w' := by
  have H : (if a0 ≥ 32 then (if a0 ≤ 126 then (some true) else ((spec_TxBoxed.f a0).bind fun t101 => (if t101 = true then (some true) else ((spec_TxWide.f a0).bind fun t102 => (some t102))))) else ((spec_TxBoxed.f a0).bind fun t103 => (if t103 = true then (some true) else ((spec_TxWide.f a0).bind fun t104 => (some t104))))) = some r := h
  clear h
  by_cases c2 : a0 ≥ 32
  · rw [if_pos c2] at H
    have c2b0 : decide (32 ≤ a0) = true := decide_eq_true c2
    clear c2
    by_cases c3 : a0 ≤ 126
    · rw [if_pos c3] at H
      have c3b0 : decide (a0 ≤ 126) = true := decide_eq_true c3
      clear c3
      obtain rfl := Option.some.inj H
      go_enter Tryd.func28, Tryd.ntmps28
      go_wp2
      go_ret
      exact ⟨by first | rfl | (simp; done) | (simp [*]; done), by repeat (first | exact Drawn0.refl _ | apply Drawn0.step)⟩
    · rw [if_neg c3] at H
      have c3b0 : decide (a0 ≤ 126) = false := decide_eq_false c3
      clear c3
      replace H := Option.bind_eq_some_iff.mp H
      obtain ⟨t101, A40, H⟩ := H
      replace H : (if t101 = true then (some true) else ((spec_TxWide.f a0).bind fun t102 => (some t102))) = some r := H
      have A4 := Aside0.mk A40
      clear A40
      by_cases c5 : t101 = true
      · subst c5
        have H1 : (some true) = some r := by rw [if_pos rfl] at H; exact H
        clear H
        have H := H1
        clear H1
        obtain rfl := Option.some.inj H
        go_enter Tryd.func28, Tryd.ntmps28
        go_wp2_with (first | (go_at_call 44; (with_reducible refine (spec_TxBoxed.calls a0 true _ A4.out).mono ?_); rintro e w' ⟨rfl, ⟨nd, rfl⟩⟩))
        go_ret
        exact ⟨by first | rfl | (simp; done) | (simp [*]; done), by repeat (first | exact Drawn0.refl _ | apply Drawn0.step)⟩
      · replace c5 := Bool.eq_false_iff.mpr c5
        subst c5
        have H1 : ((spec_TxWide.f a0).bind fun t102 => (some t102)) = some r := by rw [if_neg (show ¬ (false = true) by decide)] at H; exact H
        clear H
        have H := H1
        clear H1
        replace H := Option.bind_eq_some_iff.mp H
        obtain ⟨t102, A60, H⟩ := H
        replace H : (some t102) = some r := H
        have A6 := Aside0.mk A60
        clear A60
        obtain rfl := Option.some.inj H
        go_enter Tryd.func28, Tryd.ntmps28
        go_wp2_with (first | (go_at_call 44; (with_reducible refine (spec_TxBoxed.calls a0 false _ A4.out).mono ?_); rintro e w' ⟨rfl, ⟨nd, rfl⟩⟩) | (go_at_call 18; (with_reducible refine (spec_TxWide.calls a0 t102 _ A6.out).mono ?_); rintro e w' ⟨rfl, ⟨nd, rfl⟩⟩))
        go_ret
        exact ⟨by first | rfl | (simp; done) | (simp [*]; done), by repeat (first | exact Drawn0.refl _ | apply Drawn0.step)⟩
  · rw [if_neg c2] at H
    have c2b0 : decide (32 ≤ a0) = false := decide_eq_false c2
    clear c2
    replace H := Option.bind_eq_some_iff.mp H
    obtain ⟨t103, A70, H⟩ := H
    replace H : (if t103 = true then (some true) else ((spec_TxWide.f a0).bind fun t104 => (some t104))) = some r := H
    have A7 := Aside0.mk A70
    clear A70
    by_cases c8 : t103 = true
    · subst c8
      have H1 : (some true) = some r := by rw [if_pos rfl] at H; exact H
      clear H
      have H := H1
      clear H1
      obtain rfl := Option.some.inj H
      go_enter Tryd.func28, Tryd.ntmps28
      go_wp2_with (first | (go_at_call 44; (with_reducible refine (spec_TxBoxed.calls a0 true _ A7.out).mono ?_); rintro e w' ⟨rfl, ⟨nd, rfl⟩⟩))
      go_ret
      exact ⟨by first | rfl | (simp; done) | (simp [*]; done), by repeat (first | exact Drawn0.refl _ | apply Drawn0.step)⟩
    · replace c8 := Bool.eq_false_iff.mpr c8
      subst c8
      have H1 : ((spec_TxWide.f a0).bind fun t104 => (some t104)) = some r := by rw [if_neg (show ¬ (false = true) by decide)] at H; exact H
      clear H
      have H := H1
      clear H1
      replace H := Option.bind_eq_some_iff.mp H
      obtain ⟨t104, A90, H⟩ := H
      replace H : (some t104) = some r := H
      have A9 := Aside0.mk A90
      clear A90
      obtain rfl := Option.some.inj H
      go_enter Tryd.func28, Tryd.ntmps28
      go_wp2_with (first | (go_at_call 44; (with_reducible refine (spec_TxBoxed.calls a0 false _ A7.out).mono ?_); rintro e w' ⟨rfl, ⟨nd, rfl⟩⟩) | (go_at_call 18; (with_reducible refine (spec_TxWide.calls a0 t104 _ A9.out).mono ?_); rintro e w' ⟨rfl, ⟨nd, rfl⟩⟩))
      go_ret
      exact ⟨by first | rfl | (simp; done) | (simp [*]; done), by repeat (first | exact Drawn0.refl _ | apply Drawn0.step)⟩

/-! ### spec_TxColumns: function 29 -/
def spec_TxColumns.f (a0 : Int) : Option (Int) := (spec_TxWide.f a0).bind fun t105 => (if t105 = true then (some 2) else (some 1))
set_option maxHeartbeats 8000000 in
set_option maxRecDepth 100000 in
theorem spec_TxColumns.calls (a0 : Int) (r : Int) (w : World) (h : spec_TxColumns.f a0 = some r) :
    Calls Tryd.prog 29 #[.int .i32 a0] w fun e w' => e = .returned (.int .i64 r) ∧ Drawn0 w w' := by
  have H : ((spec_TxWide.f a0).bind fun t105 => (if t105 = true then (some 2) else (some 1))) = some r := h
  clear h
  replace H := Option.bind_eq_some_iff.mp H
  obtain ⟨t105, A20, H⟩ := H
  replace H : (if t105 = true then (some 2) else (some 1)) = some r := H
  have A2 := Aside0.mk A20
  clear A20
  by_cases c3 : t105 = true
  · subst c3
    have H1 : (some 2) = some r := by rw [if_pos rfl] at H; exact H
    clear H
    have H := H1
    clear H1
    obtain rfl := Option.some.inj H
    go_enter Tryd.func29, Tryd.ntmps29
    go_wp2_with (first | ((with_reducible refine gate_callee (f := 18) rfl ?_); refine goesL_ (some 4) rfl rfl Tryd.func18 (by kernel_rfl) rfl #[.int .i32 a0] rfl (by (try simp only [List.map_toArray, List.map_cons, List.map_nil]); first | done | rfl | (simp only [List.length_drop, List.length_take]; rfl)) ?_; (with_reducible refine (spec_TxWide.calls a0 true _ A2.out).mono ?_); rintro e w' ⟨rfl, ⟨nd, rfl⟩⟩; refine ⟨_, rfl, ?_⟩))
    go_ret
    exact ⟨by first | rfl | (simp; done) | (simp [*]; done), by repeat (first | exact Drawn0.refl _ | apply Drawn0.step)⟩
  · replace c3 := Bool.eq_false_iff.mpr c3
    subst c3
    have H1 : (some 1) = some r := by rw [if_neg (show ¬ (false = true) by decide)] at H; exact H
    clear H
    have H := H1
    clear H1
    obtain rfl := Option.some.inj H
    go_enter Tryd.func29, Tryd.ntmps29
    go_wp2_with (first | ((with_reducible refine gate_callee (f := 18) rfl ?_); refine goesL_ (some 4) rfl rfl Tryd.func18 (by kernel_rfl) rfl #[.int .i32 a0] rfl (by (try simp only [List.map_toArray, List.map_cons, List.map_nil]); first | done | rfl | (simp only [List.length_drop, List.length_take]; rfl)) ?_; (with_reducible refine (spec_TxWide.calls a0 false _ A2.out).mono ?_); rintro e w' ⟨rfl, ⟨nd, rfl⟩⟩; refine ⟨_, rfl, ?_⟩))
    go_ret
    exact ⟨by first | rfl | (simp; done) | (simp [*]; done), by repeat (first | exact Drawn0.refl _ | apply Drawn0.step)⟩

end Go.Proofs.YtphnnbbgcnilgaaDoor.GEK
