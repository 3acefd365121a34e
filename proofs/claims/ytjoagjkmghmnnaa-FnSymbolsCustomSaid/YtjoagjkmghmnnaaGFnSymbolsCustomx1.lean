-- printed by a program of this session (gprint.py) out of the translation; Lean checks it
import Derived.Test.YtjoagjkmghmnnaaGFnSymbolsCustomx0
namespace Go.Proofs.Ytjoagjkmghmnnaa.GFnSymbolsCustom
open Go.RowKit Go.Proofs.YtjoagjkmghmnnaaW.PrintWords Go.Proofs.YtjoagjkmghmnnaaW.PrintLast Go.Proofs.Ytjoagjkmghmnnaa.GivenSym Go.Proofs.YtjoagjkmghmnnaaW.PrintMore
attribute [local go_sem] max2_int min2_int max_two min_two max_three min_three max_four min_four   -- for this text's walks alone
set_option linter.unusedVariables false
set_option linter.unusedSimpArgs false

/-! ### laws_zzFits4: function 19 -/
def laws_zzFits4.l0 : Nat → List ByteArray → Int → Int → Option (Bool)
  | 0, _, _, _ => none
  | k + 1, x8, x9, x10 => if x10 < x9 then (if 0 ≤ x10 then (if x10 < (x8.length : Int) then (if ((rdOf ByteArray.empty x8 x10).size : Int) > 2147483647 then (some false) else (laws_zzFits4.l0 k x8 x9 (wrap64 (x10 + 1)))) else (none)) else (none)) else (some true)
def laws_zzFits4.f (k : Nat) (l0 : List ByteArray) : Option (Bool) := if (l0.length : Int) > 2147483647 then (some false) else (laws_zzFits4.l0 k l0 (l0.length : Int) 0)
theorem laws_zzFits4.mono_l : ∀ k, (∀ y0 y1 y2, LeO (laws_zzFits4.l0 k y0 y1 y2) (laws_zzFits4.l0 (k + 1) y0 y1 y2))
  | 0 => fun _ _ _ r h => by simp [laws_zzFits4.l0] at h
  | k + 1 => by
    have ih0 := laws_zzFits4.mono_l k
    · intro y0 y1 y2
      unfold laws_zzFits4.l0
      repeat' first
      | (with_reducible exact ih0 _ _ _)
      | (with_reducible exact LeO.refl _)
      | (with_reducible exact LeO.none _)
      | (with_reducible refine LeO.ite ?_ ?_)
      | (with_reducible refine LeO.bind ?_ (fun _ => ?_))
      | exact ih0 _ _ _
      | exact LeO.none _
      | refine LeO.ite ?_ ?_
      | refine LeO.bind ?_ (fun _ => ?_)
theorem laws_zzFits4.mono : ∀ a0 k, LeO (laws_zzFits4.f k a0) (laws_zzFits4.f (k + 1) a0) := by
  intro a0 k
  have ih0 := laws_zzFits4.mono_l k
  unfold laws_zzFits4.f
  repeat' first
      | (with_reducible exact ih0 _ _ _)
      | (with_reducible exact LeO.refl _)
      | (with_reducible exact LeO.none _)
      | (with_reducible refine LeO.ite ?_ ?_)
      | (with_reducible refine LeO.bind ?_ (fun _ => ?_))
      | exact ih0 _ _ _
      | exact LeO.none _
      | refine LeO.ite ?_ ?_
      | refine LeO.bind ?_ (fun _ => ?_)
set_option maxHeartbeats 8000000 in
set_option maxRecDepth 100000 in
theorem laws_zzFits4.calls (k : Nat) (A0 : Option Addr) (c0 : Nat) (l0 : List ByteArray) (r : Bool) (w : World) (hr0 : Kd.C Kd.string w A0 l0.length l0) (hc0 : l0.length ≤ c0) (h : laws_zzFits4.f k l0 = some r) :
    Calls Try.prog 19 #[.slice A0 l0.length c0] w fun e w' => e = .returned (.bool r) ∧ Drawn0 w w' := by
  have HR0 := Aside0.mk hr0
  have HC0 := Aside0.mk hc0
  clear hr0 hc0
  have H : (if (l0.length : Int) > 2147483647 then (some false) else (laws_zzFits4.l0 k l0 (l0.length : Int) 0)) = some r := h
  clear h
  by_cases c2 : (l0.length : Int) > 2147483647
  · rw [if_pos c2] at H
    have c2b0 : decide (2147483647 < (l0.length : Int)) = true := decide_eq_true c2
    have c2b1 : decide (2147483647 < l0.length) = true := decide_eq_true (by omega)
    clear c2
    obtain rfl := Option.some.inj H
    go_enter Try.func19, Try.ntmps19
    go_wp2
    go_ret
    exact ⟨by first | rfl | (simp; done) | (simp [*]; done), by repeat (first | exact Drawn0.refl _ | apply Drawn0.step)⟩
  · rw [if_neg c2] at H
    have c2b0 : decide (2147483647 < (l0.length : Int)) = false := decide_eq_false c2
    have c2b1 : decide (2147483647 < l0.length) = false := decide_eq_false (by omega)
    clear c2
    have H' := Aside0.mk H
    clear H
    go_enter Try.func19, Try.ntmps19
    go_wp2
    go_loopg [10] k (fun kq v10 w' => ∃ (x10_1 : Int), v10 = .int .i64 x10_1 ∧ Aside0 (laws_zzFits4.l0 kq l0 (l0.length : Int) x10_1 = some r) ∧ Aside0 (kq ≤ k) ∧ Drawn0 w w')
    case atStart => exact ⟨(0), (by first | rfl | (simp; done) | (simp [*]; done)), H', ⟨Nat.le_refl _⟩, by repeat (first | exact Drawn0.refl _ | apply Drawn0.step)⟩
    case round =>
      clear H'
      try clear c1
      try clear c2
      try clear c2b0
      try clear c2b1
      try clear p2
      obtain ⟨x10_1, rfl, HA, HK1, ⟨m1, rfl⟩⟩ := hrel
      cases gk with
      | zero => exact absurd HA.out (by simp [laws_zzFits4.l0])
      | succ k1 =>
        have H := HA.out
        clear HA
        simp only [laws_zzFits4.l0] at H
        by_cases c3 : x10_1 < (l0.length : Int)
        · rw [if_pos c3] at H
          have c3b0 : decide (x10_1 < (l0.length : Int)) = true := decide_eq_true c3
          clear c3
          by_cases c4 : 0 ≤ x10_1
          · rw [if_pos c4] at H
            have c4b0 : decide (0 ≤ x10_1) = true := decide_eq_true c4
            clear c4
            by_cases c5 : x10_1 < (l0.length : Int)
            · rw [if_pos c5] at H
              have c5b0 : decide (x10_1 < (l0.length : Int)) = true := decide_eq_true c5
              clear c5
              by_cases c6 : ((rdOf ByteArray.empty l0 x10_1).size : Int) > 2147483647
              · rw [if_pos c6] at H
                have c6b0 : decide (2147483647 < ((rdOf ByteArray.empty l0 x10_1).size : Int)) = true := decide_eq_true c6
                have c6b1 : decide (2147483647 < (rdOf ByteArray.empty l0 x10_1).size) = true := decide_eq_true (by omega)
                clear c6
                obtain rfl := Option.some.inj H
                have p101 : 0 ≤ (x10_1 : Int) := of_decide_eq_true (by first | (with_reducible assumption) | assumption)
                have q101 : x10_1 < (l0.length : Int) := of_decide_eq_true (by first | (with_reducible assumption) | assumption)
                obtain ⟨ad101, e101, hx101_0⟩ := Kd.at_string HR0.out x10_1 p101 q101
                cases e101
                replace p101 := eq_true p101
                replace q101 := eq_true q101
                go_wp2
                go_ret
                exact ⟨by first | rfl | (simp; done) | (simp [*]; done), by repeat (first | exact Drawn0.refl _ | apply Drawn0.step)⟩
              · rw [if_neg c6] at H
                have c6b0 : decide (2147483647 < ((rdOf ByteArray.empty l0 x10_1).size : Int)) = false := decide_eq_false c6
                have c6b1 : decide (2147483647 < (rdOf ByteArray.empty l0 x10_1).size) = false := decide_eq_false (by omega)
                clear c6
                have H' := Aside0.mk H
                clear H
                have p101 : 0 ≤ (x10_1 : Int) := of_decide_eq_true (by first | (with_reducible assumption) | assumption)
                have q101 : x10_1 < (l0.length : Int) := of_decide_eq_true (by first | (with_reducible assumption) | assumption)
                obtain ⟨ad101, e101, hx101_0⟩ := Kd.at_string HR0.out x10_1 p101 q101
                cases e101
                replace p101 := eq_true p101
                replace q101 := eq_true q101
                go_wp2
                go_roundg k1
                case measure => have := HK1.out; omega
                case rel => exact ⟨(wrap64 (x10_1 + 1)), (by first | rfl | (simp; done) | (simp [*]; done)), H', ⟨by have := HK1.out; omega⟩, by repeat (first | exact Drawn0.refl _ | apply Drawn0.step)⟩
            · rw [if_neg c5] at H
              exact absurd H (by simp)
          · rw [if_neg c4] at H
            exact absurd H (by simp)
        · rw [if_neg c3] at H
          have c3b0 : decide (x10_1 < (l0.length : Int)) = false := decide_eq_false c3
          clear c3
          obtain rfl := Option.some.inj H
          go_wp2
          go_ret
          exact ⟨by first | rfl | (simp; done) | (simp [*]; done), by repeat (first | exact Drawn0.refl _ | apply Drawn0.step)⟩

-- GIVEN: impl_TwSymbolsCustom

/-! ### spec_TwTexts: function 29 -/
def spec_TwTexts.l0 : Nat → List ByteArray → List ByteArray → Int → Option (Bool)
  | 0, _, _, _ => none
  | k + 1, x0, x1, x5 => if x5 < (x0.length : Int) then (if 0 ≤ x5 then (if x5 < (x1.length : Int) then (if (rdOf ByteArray.empty x0 x5).toList = (rdOf ByteArray.empty x1 x5).toList then (spec_TwTexts.l0 k x0 x1 (wrap64 (x5 + 1))) else (some false)) else (none)) else (none)) else (some true)
def spec_TwTexts.f (k : Nat) (l0 : List ByteArray) (l1 : List ByteArray) : Option (Bool) := if (l0.length : Int) = (l1.length : Int) then (spec_TwTexts.l0 k l0 l1 0) else (some false)
theorem spec_TwTexts.mono_l : ∀ k, (∀ y0 y1 y2, LeO (spec_TwTexts.l0 k y0 y1 y2) (spec_TwTexts.l0 (k + 1) y0 y1 y2))
  | 0 => fun _ _ _ r h => by simp [spec_TwTexts.l0] at h
  | k + 1 => by
    have ih0 := spec_TwTexts.mono_l k
    · intro y0 y1 y2
      unfold spec_TwTexts.l0
      repeat' first
      | (with_reducible exact ih0 _ _ _)
      | (with_reducible exact LeO.refl _)
      | (with_reducible exact LeO.none _)
      | (with_reducible refine LeO.ite ?_ ?_)
      | (with_reducible refine LeO.bind ?_ (fun _ => ?_))
      | exact ih0 _ _ _
      | exact LeO.none _
      | refine LeO.ite ?_ ?_
      | refine LeO.bind ?_ (fun _ => ?_)
theorem spec_TwTexts.mono : ∀ a0 a1 k, LeO (spec_TwTexts.f k a0 a1) (spec_TwTexts.f (k + 1) a0 a1) := by
  intro a0 a1 k
  have ih0 := spec_TwTexts.mono_l k
  unfold spec_TwTexts.f
  repeat' first
      | (with_reducible exact ih0 _ _ _)
      | (with_reducible exact LeO.refl _)
      | (with_reducible exact LeO.none _)
      | (with_reducible refine LeO.ite ?_ ?_)
      | (with_reducible refine LeO.bind ?_ (fun _ => ?_))
      | exact ih0 _ _ _
      | exact LeO.none _
      | refine LeO.ite ?_ ?_
      | refine LeO.bind ?_ (fun _ => ?_)
set_option maxHeartbeats 8000000 in
set_option maxRecDepth 100000 in
theorem spec_TwTexts.calls (k : Nat) (A0 : Option Addr) (c0 : Nat) (l0 : List ByteArray) (A1 : Option Addr) (c1 : Nat) (l1 : List ByteArray) (r : Bool) (w : World) (hr0 : Kd.C Kd.string w A0 l0.length l0) (hc0 : l0.length ≤ c0) (hr1 : Kd.C Kd.string w A1 l1.length l1) (hc1 : l1.length ≤ c1) (h : spec_TwTexts.f k l0 l1 = some r) :
    Calls Try.prog 29 #[.slice A0 l0.length c0, .slice A1 l1.length c1] w fun e w' => e = .returned (.bool r) ∧ Drawn0 w w' := by
  have HR0 := Aside0.mk hr0
  have HC0 := Aside0.mk hc0
  clear hr0 hc0
  have HR1 := Aside0.mk hr1
  have HC1 := Aside0.mk hc1
  clear hr1 hc1
  have H : (if (l0.length : Int) = (l1.length : Int) then (spec_TwTexts.l0 k l0 l1 0) else (some false)) = some r := h
  clear h
  by_cases c3 : (l0.length : Int) = (l1.length : Int)
  · rw [if_pos c3] at H
    have c3b0 : ((l0.length : Int) == (l1.length : Int)) = true := beq_iff_eq.mpr c3
    have c3b1 : ((l0.length : Int) != (l1.length : Int)) = false := bne_eq_false_iff_eq.mpr c3
    have c3b2 : (l0.length == l1.length) = true := by first | simpa using c3 | (simp at c3 ⊢; omega)
    clear c3
    have H' := Aside0.mk H
    clear H
    go_enter Try.func29, Try.ntmps29
    go_wp2
    repeat (go_quiet (fail); try go_wp2)
    go_loopg [5] k (fun kq v5 w' => ∃ (x5_1 : Int), v5 = .int .i64 x5_1 ∧ Aside0 (spec_TwTexts.l0 kq l0 l1 x5_1 = some r) ∧ Aside0 (kq ≤ k) ∧ Drawn0 w w')
    case atStart => exact ⟨(0), (by first | rfl | (simp; done) | (simp [*]; done)), H', ⟨Nat.le_refl _⟩, by repeat (first | exact Drawn0.refl _ | apply Drawn0.step)⟩
    case round =>
      clear H'
      try clear c1
      try clear c2
      try clear p2
      try clear c3
      try clear c3b0
      try clear c3b1
      try clear c3b2
      obtain ⟨x5_1, rfl, HA, HK1, ⟨m1, rfl⟩⟩ := hrel
      cases gk with
      | zero => exact absurd HA.out (by simp [spec_TwTexts.l0])
      | succ k1 =>
        have H := HA.out
        clear HA
        simp only [spec_TwTexts.l0] at H
        by_cases c4 : x5_1 < (l0.length : Int)
        · rw [if_pos c4] at H
          have c4b0 : decide (x5_1 < (l0.length : Int)) = true := decide_eq_true c4
          clear c4
          by_cases c5 : 0 ≤ x5_1
          · rw [if_pos c5] at H
            have c5b0 : decide (0 ≤ x5_1) = true := decide_eq_true c5
            clear c5
            by_cases c6 : x5_1 < (l1.length : Int)
            · rw [if_pos c6] at H
              have c6b0 : decide (x5_1 < (l1.length : Int)) = true := decide_eq_true c6
              clear c6
              by_cases c7 : (rdOf ByteArray.empty l0 x5_1).toList = (rdOf ByteArray.empty l1 x5_1).toList
              · rw [if_pos c7] at H
                have c7b0 : ((rdOf ByteArray.empty l0 x5_1).toList == (rdOf ByteArray.empty l1 x5_1).toList) = true := beq_iff_eq.mpr c7
                have c7b1 : ((rdOf ByteArray.empty l0 x5_1).toList != (rdOf ByteArray.empty l1 x5_1).toList) = false := bne_eq_false_iff_eq.mpr c7
                clear c7
                have H' := Aside0.mk H
                clear H
                have p102 : 0 ≤ (x5_1 : Int) := of_decide_eq_true (by first | (with_reducible assumption) | assumption)
                have q102 : x5_1 < (l0.length : Int) := of_decide_eq_true (by first | (with_reducible assumption) | assumption)
                obtain ⟨ad102, e102, hx102_0⟩ := Kd.at_string HR0.out x5_1 p102 q102
                cases e102
                replace p102 := eq_true p102
                replace q102 := eq_true q102
                have p103 : 0 ≤ (x5_1 : Int) := of_decide_eq_true (by first | (with_reducible assumption) | assumption)
                have q103 : x5_1 < (l1.length : Int) := of_decide_eq_true (by first | (with_reducible assumption) | assumption)
                obtain ⟨ad103, e103, hx103_0⟩ := Kd.at_string HR1.out x5_1 p103 q103
                cases e103
                replace p103 := eq_true p103
                replace q103 := eq_true q103
                go_wp2
                repeat (go_quiet (fail); try go_wp2)
                go_roundg k1
                case measure => have := HK1.out; omega
                case rel => exact ⟨(wrap64 (x5_1 + 1)), (by first | rfl | (simp; done) | (simp [*]; done)), H', ⟨by have := HK1.out; omega⟩, by repeat (first | exact Drawn0.refl _ | apply Drawn0.step)⟩
              · rw [if_neg c7] at H
                have c7b0 : ((rdOf ByteArray.empty l0 x5_1).toList == (rdOf ByteArray.empty l1 x5_1).toList) = false := beq_eq_false_iff_ne.mpr c7
                have c7b1 : ((rdOf ByteArray.empty l0 x5_1).toList != (rdOf ByteArray.empty l1 x5_1).toList) = true := bne_iff_ne.mpr c7
                obtain rfl := Option.some.inj H
                have p102 : 0 ≤ (x5_1 : Int) := of_decide_eq_true (by first | (with_reducible assumption) | assumption)
                have q102 : x5_1 < (l0.length : Int) := of_decide_eq_true (by first | (with_reducible assumption) | assumption)
                obtain ⟨ad102, e102, hx102_0⟩ := Kd.at_string HR0.out x5_1 p102 q102
                cases e102
                replace p102 := eq_true p102
                replace q102 := eq_true q102
                have p103 : 0 ≤ (x5_1 : Int) := of_decide_eq_true (by first | (with_reducible assumption) | assumption)
                have q103 : x5_1 < (l1.length : Int) := of_decide_eq_true (by first | (with_reducible assumption) | assumption)
                obtain ⟨ad103, e103, hx103_0⟩ := Kd.at_string HR1.out x5_1 p103 q103
                cases e103
                replace p103 := eq_true p103
                replace q103 := eq_true q103
                go_wp2
                repeat (go_quiet (fail); try go_wp2)
                go_ret
                exact ⟨by first | rfl | (simp; done) | (simp [*]; done), by repeat (first | exact Drawn0.refl _ | apply Drawn0.step)⟩
            · rw [if_neg c6] at H
              exact absurd H (by simp)
          · rw [if_neg c5] at H
            exact absurd H (by simp)
        · rw [if_neg c4] at H
          have c4b0 : decide (x5_1 < (l0.length : Int)) = false := decide_eq_false c4
          clear c4
          obtain rfl := Option.some.inj H
          go_wp2
          repeat (go_quiet (fail); try go_wp2)
          go_ret
          exact ⟨by first | rfl | (simp; done) | (simp [*]; done), by repeat (first | exact Drawn0.refl _ | apply Drawn0.step)⟩
  · rw [if_neg c3] at H
    have c3b0 : ((l0.length : Int) == (l1.length : Int)) = false := beq_eq_false_iff_ne.mpr c3
    have c3b1 : ((l0.length : Int) != (l1.length : Int)) = true := bne_iff_ne.mpr c3
    have c3b2 : (l0.length == l1.length) = false := by first | simpa using c3 | (simp at c3 ⊢; omega)
    obtain rfl := Option.some.inj H
    go_enter Try.func29, Try.ntmps29
    go_wp2
    repeat (go_quiet (fail); try go_wp2)
    go_ret
    exact ⟨by first | rfl | (simp; done) | (simp [*]; done), by repeat (first | exact Drawn0.refl _ | apply Drawn0.step)⟩

/-! ### laws_FnSymbolsCustom: function 9 -/
mutual
def laws_FnSymbolsCustom.j0 : Nat → ByteArray → List Int → List ByteArray → Bool → Option (Bool)
  | 0, _, _, _, _ => none
  | k + 1, x0, x1, x2, x23 => if x23 = true then (some true) else (if (x1.length : Int) = (x2.length : Int) then (laws_FnSymbolsCustom.j1 k x0 x1 x2 (decide ((x1.length : Int) > 60))) else (laws_FnSymbolsCustom.j1 k x0 x1 x2 true))
def laws_FnSymbolsCustom.j1 : Nat → ByteArray → List Int → List ByteArray → Bool → Option (Bool)
  | 0, _, _, _, _ => none
  | k + 1, x0, x1, x2, x33 => if x33 = true then (some true) else (if 14 ≤ 17592186044416 then ((some (List.replicate 14 (⟨#[]⟩ : ByteArray) : List ByteArray)).bind fun y105 => (if 0 < (y105.length : Int) then (if 1 < (y105.length : Int) then (if 2 < (y105.length : Int) then (laws_FnSymbolsCustom.l0 k x0 x1 x2 (((y105.set (0 : Int).toNat (⟨#[43]⟩ : ByteArray)).set (1 : Int).toNat (⟨#[45]⟩ : ByteArray)).set (2 : Int).toNat (⟨#[124]⟩ : ByteArray)) ([] : List Int) 0) else (none)) else (none)) else (none))) else (none))
def laws_FnSymbolsCustom.l0 : Nat → ByteArray → List Int → List ByteArray → List ByteArray → List Int → Int → Option (Bool)
  | 0, _, _, _, _, _, _ => none
  | k + 1, x0, x1, x2, x7, x8, x9 => if x9 < (x1.length : Int) then (if 0 ≤ x9 then (if x8.length < 17592186044416 then ((some (x8 ++ [Int.tmod (wrap64 (rd x1 x9)) 14] : List Int)).bind fun y112 => (if x9 < (y112.length : Int) then (if x9 < (x2.length : Int) then (if 0 ≤ (rd y112 x9) then (if (rd y112 x9) < (x7.length : Int) then (laws_FnSymbolsCustom.l0 k x0 x1 x2 (x7.set ((rd y112 x9) : Int).toNat (rdOf ByteArray.empty x2 x9)) y112 (wrap64 (x9 + 1))) else (none)) else (none)) else (none)) else (none))) else (none)) else (none)) else ((impl_TwSymbolsCustom.f x0 x8 x2).bind fun bt118 => (if bt118.1.toList = x0.toList then ((spec_TwTexts.f k bt118.2 x7).bind fun t123 => (some t123)) else (some false)))
end
def laws_FnSymbolsCustom.f (k : Nat) (a0 : ByteArray) (l1 : List Int) (l2 : List ByteArray) : Option (Bool) := if (a0.size : Int) > 2147483647 then (laws_FnSymbolsCustom.j0 k a0 l1 l2 true) else (if (l1.length : Int) > 2147483647 then (laws_FnSymbolsCustom.j0 k a0 l1 l2 true) else ((laws_zzFits4.f k l2).bind fun t104 => (laws_FnSymbolsCustom.j0 k a0 l1 l2 (!t104))))
theorem laws_FnSymbolsCustom.mono_l : ∀ k, (∀ y0 y1 y2 y3, LeO (laws_FnSymbolsCustom.j0 k y0 y1 y2 y3) (laws_FnSymbolsCustom.j0 (k + 1) y0 y1 y2 y3)) ∧ (∀ y0 y1 y2 y3, LeO (laws_FnSymbolsCustom.j1 k y0 y1 y2 y3) (laws_FnSymbolsCustom.j1 (k + 1) y0 y1 y2 y3)) ∧ (∀ y0 y1 y2 y3 y4 y5, LeO (laws_FnSymbolsCustom.l0 k y0 y1 y2 y3 y4 y5) (laws_FnSymbolsCustom.l0 (k + 1) y0 y1 y2 y3 y4 y5))
  | 0 => ⟨fun _ _ _ _ r h => by simp [laws_FnSymbolsCustom.j0] at h, fun _ _ _ _ r h => by simp [laws_FnSymbolsCustom.j1] at h, fun _ _ _ _ _ _ r h => by simp [laws_FnSymbolsCustom.l0] at h⟩
  | k + 1 => by
    obtain ⟨ih0, ih1, ih2⟩ := laws_FnSymbolsCustom.mono_l k
    refine ⟨?_, ?_, ?_⟩
    · intro y0 y1 y2 y3
      unfold laws_FnSymbolsCustom.j0
      repeat' first
      | (with_reducible exact ih0 _ _ _ _)
      | (with_reducible exact ih1 _ _ _ _)
      | (with_reducible exact ih2 _ _ _ _ _ _)
      | (with_reducible exact laws_zzFits4.mono _ _)
      | (with_reducible exact spec_TwTexts.mono _ _ _)
      | (with_reducible exact LeO.refl _)
      | (with_reducible exact LeO.none _)
      | (with_reducible refine LeO.ite ?_ ?_)
      | (with_reducible refine LeO.bind ?_ (fun _ => ?_))
      | exact ih0 _ _ _ _
      | exact ih1 _ _ _ _
      | exact ih2 _ _ _ _ _ _
      | exact laws_zzFits4.mono _ _
      | exact spec_TwTexts.mono _ _ _
      | exact LeO.none _
      | refine LeO.ite ?_ ?_
      | refine LeO.bind ?_ (fun _ => ?_)
    · intro y0 y1 y2 y3
      unfold laws_FnSymbolsCustom.j1
      repeat' first
      | (with_reducible exact ih0 _ _ _ _)
      | (with_reducible exact ih1 _ _ _ _)
      | (with_reducible exact ih2 _ _ _ _ _ _)
      | (with_reducible exact laws_zzFits4.mono _ _)
      | (with_reducible exact spec_TwTexts.mono _ _ _)
      | (with_reducible exact LeO.refl _)
      | (with_reducible exact LeO.none _)
      | (with_reducible refine LeO.ite ?_ ?_)
      | (with_reducible refine LeO.bind ?_ (fun _ => ?_))
      | exact ih0 _ _ _ _
      | exact ih1 _ _ _ _
      | exact ih2 _ _ _ _ _ _
      | exact laws_zzFits4.mono _ _
      | exact spec_TwTexts.mono _ _ _
      | exact LeO.none _
      | refine LeO.ite ?_ ?_
      | refine LeO.bind ?_ (fun _ => ?_)
    · intro y0 y1 y2 y3 y4 y5
      unfold laws_FnSymbolsCustom.l0
      repeat' first
      | (with_reducible exact ih0 _ _ _ _)
      | (with_reducible exact ih1 _ _ _ _)
      | (with_reducible exact ih2 _ _ _ _ _ _)
      | (with_reducible exact laws_zzFits4.mono _ _)
      | (with_reducible exact spec_TwTexts.mono _ _ _)
      | (with_reducible exact LeO.refl _)
      | (with_reducible exact LeO.none _)
      | (with_reducible refine LeO.ite ?_ ?_)
      | (with_reducible refine LeO.bind ?_ (fun _ => ?_))
      | exact ih0 _ _ _ _
      | exact ih1 _ _ _ _
      | exact ih2 _ _ _ _ _ _
      | exact laws_zzFits4.mono _ _
      | exact spec_TwTexts.mono _ _ _
      | exact LeO.none _
      | refine LeO.ite ?_ ?_
      | refine LeO.bind ?_ (fun _ => ?_)
theorem laws_FnSymbolsCustom.mono : ∀ a0 a1 a2 k, LeO (laws_FnSymbolsCustom.f k a0 a1 a2) (laws_FnSymbolsCustom.f (k + 1) a0 a1 a2) := by
  intro a0 a1 a2 k
  obtain ⟨ih0, ih1, ih2⟩ := laws_FnSymbolsCustom.mono_l k
  unfold laws_FnSymbolsCustom.f
  repeat' first
      | (with_reducible exact ih0 _ _ _ _)
      | (with_reducible exact ih1 _ _ _ _)
      | (with_reducible exact ih2 _ _ _ _ _ _)
      | (with_reducible exact laws_zzFits4.mono _ _)
      | (with_reducible exact spec_TwTexts.mono _ _ _)
      | (with_reducible exact LeO.refl _)
      | (with_reducible exact LeO.none _)
      | (with_reducible refine LeO.ite ?_ ?_)
      | (with_reducible refine LeO.bind ?_ (fun _ => ?_))
      | exact ih0 _ _ _ _
      | exact ih1 _ _ _ _
      | exact ih2 _ _ _ _ _ _
      | exact laws_zzFits4.mono _ _
      | exact spec_TwTexts.mono _ _ _
      | exact LeO.none _
      | refine LeO.ite ?_ ?_
      | refine LeO.bind ?_ (fun _ => ?_)
def laws_FnSymbolsCustom.T12 : Bool × List (List Nat × List Nat) := (true, [([], []), ([], []), ([], []), ([1, 2], [1, 2]), ([3], [3]), ([], []), ([], []), ([5, 6], [5, 6]), ([7], [7]), ([0, 4, 0, 1, 2, 3, 4, 5, 6, 7, 8], [0, 4]), ([9, 8, 0, 1, 2, 3, 4, 5, 6, 7, 8], [8, 9])])
def laws_FnSymbolsCustom.B12 : List Nat := [0, 0, 0, 6, 14, 0, 0, 96, 224, 511, 1023]
theorem laws_FnSymbolsCustom.tab12 : rtab .any (opsOf Try.f9 12) = laws_FnSymbolsCustom.T12 := by kernel_rfl
theorem laws_FnSymbolsCustom.bits12 : waitsOk laws_FnSymbolsCustom.T12.2 laws_FnSymbolsCustom.B12 = true := by kernel_rfl
set_option maxHeartbeats 8000000 in
set_option maxRecDepth 100000 in
theorem laws_FnSymbolsCustom.calls (k : Nat) (a0 : ByteArray) (A1 : Option Addr) (c1 : Nat) (l1 : List Int) (A2 : Option Addr) (c2 : Nat) (l2 : List ByteArray) (r : Bool) (w : World) (hr1 : Kd.C (Kd.int .u8) w A1 l1.length l1) (hc1 : l1.length ≤ c1) (hr2 : Kd.C Kd.string w A2 l2.length l2) (hc2 : l2.length ≤ c2) (h : laws_FnSymbolsCustom.f k a0 l1 l2 = some r) :
    Calls Try.prog 9 #[.string a0, .slice A1 l1.length c1, .slice A2 l2.length c2] w fun e w' => e = .returned (.bool r) ∧ Below w.heap.size w w' := by
  have hu48 := Try.underlying48
  have HR1 := Aside0.mk hr1
  have HC1 := Aside0.mk hc1
  clear hr1 hc1
  have HR2 := Aside0.mk hr2
  have HC2 := Aside0.mk hc2
  clear hr2 hc2
  have HB := Aside0.mk (Below.refl w.heap.size w)
  have H : (if (a0.size : Int) > 2147483647 then (laws_FnSymbolsCustom.j0 k a0 l1 l2 true) else (if (l1.length : Int) > 2147483647 then (laws_FnSymbolsCustom.j0 k a0 l1 l2 true) else ((laws_zzFits4.f k l2).bind fun t104 => (laws_FnSymbolsCustom.j0 k a0 l1 l2 (!t104))))) = some r := h
  clear h
  have HC4 := Aside0.mk H
  clear H
  go_enter Try.func9, Try.ntmps9
  go_upto_region 1 with (fail)
  go_cut [23] (fun v23 wc => ∃ (kq : Nat) (x23_3 : Bool), v23 = .bool x23_3 ∧ Aside0 (laws_FnSymbolsCustom.j0 kq a0 l1 l2 x23_3 = some r) ∧ Aside0 (kq ≤ k) ∧ Aside0 (Below w.heap.size w wc))
  case first =>
    have H := HC4.out
    clear HC4
    by_cases c5 : (a0.size : Int) > 2147483647
    · rw [if_pos c5] at H
      have c5b0 : decide (2147483647 < (a0.size : Int)) = true := decide_eq_true c5
      have c5b1 : decide (2147483647 < a0.size) = true := decide_eq_true (by omega)
      clear c5
      (first | rw [c5b0] | (simp only [i64_w, i32_w]; rw [c5b0]) | skip)
      have H' := Aside0.mk H
      clear H
      go_wp2
      go_meet
      case rel => exact ⟨_, (true), (by first | rfl | (simp; done) | (simp [*]; done)), H', ⟨by first | omega | exact Nat.le_refl _⟩, ⟨by repeat (first | (with_reducible first | exact HB.out | apply below_alloc | apply pw_below_drewN | apply below_drew1) | exact HB.out)⟩⟩
    · rw [if_neg c5] at H
      have c5b0 : decide (2147483647 < (a0.size : Int)) = false := decide_eq_false c5
      have c5b1 : decide (2147483647 < a0.size) = false := decide_eq_false (by omega)
      clear c5
      (first | rw [c5b0] | (simp only [i64_w, i32_w]; rw [c5b0]) | skip)
      by_cases c6 : (l1.length : Int) > 2147483647
      · rw [if_pos c6] at H
        have c6b0 : decide (2147483647 < (l1.length : Int)) = true := decide_eq_true c6
        have c6b1 : decide (2147483647 < l1.length) = true := decide_eq_true (by omega)
        clear c6
        have H' := Aside0.mk H
        clear H
        go_wp2
        go_meet
        case rel => exact ⟨_, (true), (by first | rfl | (simp; done) | (simp [*]; done)), H', ⟨by first | omega | exact Nat.le_refl _⟩, ⟨by repeat (first | (with_reducible first | exact HB.out | apply below_alloc | apply pw_below_drewN | apply below_drew1) | exact HB.out)⟩⟩
      · rw [if_neg c6] at H
        have c6b0 : decide (2147483647 < (l1.length : Int)) = false := decide_eq_false c6
        have c6b1 : decide (2147483647 < l1.length) = false := decide_eq_false (by omega)
        clear c6
        replace H := Option.bind_eq_some_iff.mp H
        obtain ⟨t104, A70, H⟩ := H
        replace H : (laws_FnSymbolsCustom.j0 k a0 l1 l2 (!t104)) = some r := H
        have A7 := Aside0.mk A70
        clear A70
        have H' := Aside0.mk H
        clear H
        go_wp2_with (first | (go_at_call 19; (with_reducible refine (laws_zzFits4.calls k _ _ l2 t104 _ ?side1 ?side2 A7.out).mono ?_); (case side1 => repeat (first | exact (Kd.C_below HR2.out HB.out) | (with_reducible refine Kd.C_alloc ?_ _) | (with_reducible refine Kd.C_drewN ?_ _) | (with_reducible refine Kd.C_drew ?_))); (case side2 => exact HC2.out); rintro e w' ⟨rfl, ⟨nd, rfl⟩⟩))
        go_meet
        case rel => exact ⟨_, (!t104), (by first | rfl | (simp; done) | (simp [*]; done)), H', ⟨by first | omega | exact Nat.le_refl _⟩, ⟨by repeat (first | (with_reducible first | exact HB.out | apply below_alloc | apply pw_below_drewN | apply below_drew1) | exact HB.out)⟩⟩
  case rest =>
    clear HC4
    try clear c1
    try clear c2
    try clear p2
    try clear c5
    try clear c5b0
    try clear c5b1
    try clear c6
    try clear c6b0
    try clear c6b1
    obtain ⟨kq, x23_3, rfl, HA, HJ3, HB⟩ := hcut
    cases kq with
    | zero => exact absurd HA.out (by simp [laws_FnSymbolsCustom.j0])
    | succ kj3 =>
      have H := HA.out
      clear HA
      simp only [laws_FnSymbolsCustom.j0] at H
      by_cases c8 : x23_3 = true
      · subst c8
        have H1 : (some true) = some r := by rw [if_pos rfl] at H; exact H
        clear H
        have H := H1
        clear H1
        obtain rfl := Option.some.inj H
        go_wp2
        go_ret
        exact ⟨by first | rfl | (simp [errW_none, errW_some] <;> rfl) | (simp [*, errW_none, errW_some] <;> rfl), by repeat (first | (with_reducible first | exact HB.out | apply below_alloc | apply pw_below_drewN | apply below_drew1) | exact HB.out)⟩
      · replace c8 := Bool.eq_false_iff.mpr c8
        subst c8
        have H1 : (if (l1.length : Int) = (l2.length : Int) then (laws_FnSymbolsCustom.j1 kj3 a0 l1 l2 (decide ((l1.length : Int) > 60))) else (laws_FnSymbolsCustom.j1 kj3 a0 l1 l2 true)) = some r := by rw [if_neg (show ¬ (false = true) by decide)] at H; exact H
        clear H
        have H := H1
        clear H1
        have HC9 := Aside0.mk H
        clear H
        go_upto_region 3 with (fail)
        go_cut [33] (fun v33 wc => ∃ (kq : Nat) (x33_8 : Bool), v33 = .bool x33_8 ∧ Aside0 (laws_FnSymbolsCustom.j1 kq a0 l1 l2 x33_8 = some r) ∧ Aside0 (kq ≤ kj3) ∧ Aside0 (Below w.heap.size w wc))
        case first =>
          have H := HC9.out
          clear HC9
          by_cases c10 : (l1.length : Int) = (l2.length : Int)
          · rw [if_pos c10] at H
            have c10b0 : ((l1.length : Int) == (l2.length : Int)) = true := beq_iff_eq.mpr c10
            have c10b1 : ((l1.length : Int) != (l2.length : Int)) = false := bne_eq_false_iff_eq.mpr c10
            have c10b2 : (l1.length == l2.length) = true := by first | simpa using c10 | (simp at c10 ⊢; omega)
            clear c10
            (first | rw [c10b0] | (simp only [i64_w, i32_w]; rw [c10b0]) | skip)
            have H' := Aside0.mk H
            clear H
            go_wp2
            go_meet
            case rel => exact ⟨_, (decide ((l1.length : Int) > 60)), (by first | rfl | (simp; done) | (simp [*]; done)), H', ⟨by have := HJ3.out; first | omega | exact Nat.le_refl _⟩, ⟨by repeat (first | (with_reducible first | exact HB.out | apply below_alloc | apply pw_below_drewN | apply below_drew1) | exact HB.out)⟩⟩
          · rw [if_neg c10] at H
            have c10b0 : ((l1.length : Int) == (l2.length : Int)) = false := beq_eq_false_iff_ne.mpr c10
            have c10b1 : ((l1.length : Int) != (l2.length : Int)) = true := bne_iff_ne.mpr c10
            have c10b2 : (l1.length == l2.length) = false := by first | simpa using c10 | (simp at c10 ⊢; omega)
            (first | rw [c10b0] | (simp only [i64_w, i32_w]; rw [c10b0]) | skip)
            have H' := Aside0.mk H
            clear H
            go_wp2
            go_meet
            case rel => exact ⟨_, (true), (by first | rfl | (simp; done) | (simp [*]; done)), H', ⟨by have := HJ3.out; first | omega | exact Nat.le_refl _⟩, ⟨by repeat (first | (with_reducible first | exact HB.out | apply below_alloc | apply pw_below_drewN | apply below_drew1) | exact HB.out)⟩⟩
        case rest =>
          clear HC9
          try clear c1
          try clear c2
          try clear p2
          try clear c5
          try clear c5b0
          try clear c5b1
          try clear c6
          try clear c6b0
          try clear c6b1
          try clear c8
          try clear c9
          try clear c10
          try clear c10b0
          try clear c10b1
          try clear c10b2
          try clear p2
          obtain ⟨kq, x33_8, rfl, HA, HJ8, HB⟩ := hcut
          cases kq with
          | zero => exact absurd HA.out (by simp [laws_FnSymbolsCustom.j1])
          | succ kj8 =>
            have H := HA.out
            clear HA
            simp only [laws_FnSymbolsCustom.j1] at H
            by_cases c11 : x33_8 = true
            · subst c11
              have H1 : (some true) = some r := by rw [if_pos rfl] at H; exact H
              clear H
              have H := H1
              clear H1
              obtain rfl := Option.some.inj H
              go_wp2
              go_ret
              exact ⟨by first | rfl | (simp [errW_none, errW_some] <;> rfl) | (simp [*, errW_none, errW_some] <;> rfl), by repeat (first | (with_reducible first | exact HB.out | apply below_alloc | apply pw_below_drewN | apply below_drew1) | exact HB.out)⟩
            · replace c11 := Bool.eq_false_iff.mpr c11
              subst c11
              have H1 : (if 14 ≤ 17592186044416 then ((some (List.replicate 14 (⟨#[]⟩ : ByteArray) : List ByteArray)).bind fun y105 => (if 0 < (y105.length : Int) then (if 1 < (y105.length : Int) then (if 2 < (y105.length : Int) then (laws_FnSymbolsCustom.l0 kj8 a0 l1 l2 (((y105.set (0 : Int).toNat (⟨#[43]⟩ : ByteArray)).set (1 : Int).toNat (⟨#[45]⟩ : ByteArray)).set (2 : Int).toNat (⟨#[124]⟩ : ByteArray)) ([] : List Int) 0) else (none)) else (none)) else (none))) else (none)) = some r := by rw [if_neg (show ¬ (false = true) by decide)] at H; exact H
              clear H
              have H := H1
              clear H1
              by_cases c12 : 14 ≤ 17592186044416
              · rw [if_pos c12] at H
                have c12b0 := eq_true c12
                have c12b1 : decide (14 ≤ 17592186044416) = true := decide_eq_true c12
                clear c12
                obtain ⟨y105, hy105⟩ : ∃ y_ : List ByteArray, y_ = (List.replicate 14 (⟨#[]⟩ : ByteArray)) := ⟨_, rfl⟩
                replace H : (if 0 < (y105.length : Int) then (if 1 < (y105.length : Int) then (if 2 < (y105.length : Int) then (laws_FnSymbolsCustom.l0 kj8 a0 l1 l2 (((y105.set (0 : Int).toNat (⟨#[43]⟩ : ByteArray)).set (1 : Int).toNat (⟨#[45]⟩ : ByteArray)).set (2 : Int).toNat (⟨#[124]⟩ : ByteArray)) ([] : List Int) 0) else (none)) else (none)) else (none)) = some r := by first | (rw [hy105]; with_reducible exact H) | (have H2_ := (Option.bind_some _ _).symm.trans H; rw [hy105]; with_reducible exact H2_) | (have H2_ := (Option.bind_some _ _).symm.trans H; with_reducible exact H2_) | with_reducible exact H | (rw [hy105]; exact H) | exact H
                have Ny105 := Aside0.mk hy105
                clear hy105
                by_cases c13 : 0 < (y105.length : Int)
                · rw [if_pos c13] at H
                  have c13b0 : decide (0 < (y105.length : Int)) = true := decide_eq_true c13
                  have c13b1 : decide (0 < y105.length) = true := decide_eq_true (by omega)
                  clear c13
                  obtain ⟨y108, hy108⟩ : ∃ y_ : List ByteArray, y_ = (y105.set (0 : Int).toNat (⟨#[43]⟩ : ByteArray)) := ⟨_, rfl⟩
                  replace H : (if 1 < (y105.length : Int) then (if 2 < (y105.length : Int) then (laws_FnSymbolsCustom.l0 kj8 a0 l1 l2 ((y108.set (1 : Int).toNat (⟨#[45]⟩ : ByteArray)).set (2 : Int).toNat (⟨#[124]⟩ : ByteArray)) ([] : List Int) 0) else (none)) else (none)) = some r := by first | (rw [hy108]; with_reducible exact H) | (have H2_ := (Option.bind_some _ _).symm.trans H; rw [hy108]; with_reducible exact H2_) | (have H2_ := (Option.bind_some _ _).symm.trans H; with_reducible exact H2_) | with_reducible exact H | (rw [hy108]; exact H) | exact H
                  have Ny108 := Aside0.mk hy108
                  clear hy108
                  by_cases c15 : 1 < (y105.length : Int)
                  · rw [if_pos c15] at H
                    have c15b0 : decide (1 < (y105.length : Int)) = true := decide_eq_true c15
                    have c15b1 : decide (1 < y105.length) = true := decide_eq_true (by omega)
                    clear c15
                    obtain ⟨y109, hy109⟩ : ∃ y_ : List ByteArray, y_ = (y108.set (1 : Int).toNat (⟨#[45]⟩ : ByteArray)) := ⟨_, rfl⟩
                    replace H : (if 2 < (y105.length : Int) then (laws_FnSymbolsCustom.l0 kj8 a0 l1 l2 (y109.set (2 : Int).toNat (⟨#[124]⟩ : ByteArray)) ([] : List Int) 0) else (none)) = some r := by first | (rw [hy109]; with_reducible exact H) | (have H2_ := (Option.bind_some _ _).symm.trans H; rw [hy109]; with_reducible exact H2_) | (have H2_ := (Option.bind_some _ _).symm.trans H; with_reducible exact H2_) | with_reducible exact H | (rw [hy109]; exact H) | exact H
                    have Ny109 := Aside0.mk hy109
                    clear hy109
                    by_cases c17 : 2 < (y105.length : Int)
                    · rw [if_pos c17] at H
                      have c17b0 : decide (2 < (y105.length : Int)) = true := decide_eq_true c17
                      have c17b1 : decide (2 < y105.length) = true := decide_eq_true (by omega)
                      clear c17
                      obtain ⟨y110, hy110⟩ : ∃ y_ : List ByteArray, y_ = (y109.set (2 : Int).toNat (⟨#[124]⟩ : ByteArray)) := ⟨_, rfl⟩
                      replace H : (laws_FnSymbolsCustom.l0 kj8 a0 l1 l2 y110 ([] : List Int) 0) = some r := by first | (rw [hy110]; with_reducible exact H) | (have H2_ := (Option.bind_some _ _).symm.trans H; rw [hy110]; with_reducible exact H2_) | (have H2_ := (Option.bind_some _ _).symm.trans H; with_reducible exact H2_) | with_reducible exact H | (rw [hy110]; exact H) | exact H
                      have Ny110 := Aside0.mk hy110
                      clear hy110
                      have H' := Aside0.mk H
                      clear H
                      go_wp2_with (first | ((with_reducible refine gate_dst (N := 34) rfl ?_); (try (refine gate_guard (by rfl) ?_; dsimp only)); refine Kd.R_make Kd.string _ 9 rfl (N := 34) rfl 29 _ _ rfl 14 rfl rfl Try.underlying29 (.string ⟨#[]⟩) 16 info9 rfl (by decide) (by omega) (⟨#[]⟩ : ByteArray) (ok := fun _ => True) (okp := fun _ => True) rfl (fun _ hk => hk) trivial (by omega) (by omega) (Below.refl _ _) (Nat.le_refl _) ?_; intro v106 w19 ho20 hb hg_ hnew_; clear hg_ hnew_; (first | rw [← Ny105.out] at ho20 | (simp only [Int.reduceToNat] at ho20; rw [← Ny105.out] at ho20)); have n0_ := Aside0.mk (Kd.R_lower ho20 (below_size (by repeat (first | (with_reducible first | exact HB.out | apply below_alloc | apply pw_below_drewN | apply below_drew1) | exact HB.out)))); have n1_ := Aside0.mk (below_step (by repeat (first | (with_reducible first | exact HB.out | apply below_alloc | apply pw_below_drewN | apply below_drew1) | exact HB.out)) hb); clear HB; have HO107 := n0_; have HB := n1_; clear n0_ n1_; clear hb ho20; have p14 : 0 ≤ (0 : Int) := (by omega); have q14 : (0 : Int) < ((y105.length : Int) : Int) := of_decide_eq_true (by first | (with_reducible assumption) | assumption); have qi14 : (0 < y105.length) = True := eq_true (by omega); obtain ⟨go14, co14, eo14, gb14, gl14, cl14, HG14⟩ := Kd.R_form HO107.out (by omega); (first | cases eo14 | (injection eo14 with ea_ en_ ec_; (first | subst ea_ | (injection ea_ with ea_; subst ea_)); subst ec_; clear en_)); have GB14 := Aside0.mk gb14; have GG14 := Aside0.mk HG14; clear gb14 gl14 HG14; obtain ⟨hx14_0, hf14_0⟩ := Kd.R_celln (⟨#[]⟩ : ByteArray) HO107.out (0 : Int) p14 q14; (try rw [show ((0 : Int)).toNat = 0 from rfl] at hx14_0); (try simp only [Nat.reduceMul, Nat.zero_mul, Nat.zero_add, Nat.reduceAdd] at hx14_0); (try rw [show ((0 : Int)).toNat = 0 from rfl] at hf14_0); (try simp only [Nat.reduceMul, Nat.zero_mul, Nat.zero_add, Nat.reduceAdd] at hf14_0); replace p14 := eq_true p14; replace q14 := eq_true q14; obtain ⟨hy21_, hz21_⟩ := Kd.R_celln (⟨#[]⟩ : ByteArray) HO107.out (0 : Int) (by omega) (of_decide_eq_true (by first | (with_reducible assumption) | assumption)); (try simp only [Int.reduceToNat, Int.toNat_zero, Int.toNat_ofNat, Nat.reduceMul, Nat.zero_mul, Nat.zero_add] at hy21_ hz21_); (try rw [show ((0 : Int)).toNat = 0 from rfl] at hy21_); (try rw [show ((0 : Int)).toNat = 0 from rfl] at hz21_); have HP21 := Kd.R_putg HO107.out (0 : Int) (⟨#[43]⟩ : ByteArray)) | ((with_reducible refine gate_store (t := 9) (p := 38) rfl ?_); refine store_event (t := 9) (p := 38) (v := ?vo_w22) (w1 := (w19.setCell ⟨go14, (0 : Int).toNat, none⟩ (.string (⟨#[43]⟩ : ByteArray)))) ?hg ?ho ?hn ?hr ?_; (case ho => rfl); (case hg => rfl); (case hn => rfl); (case hr => first | (go_simp; done) | (go_simp; rfl)); intro w22 hw; have hg : w19.grownBy w22 (some go14) := (by rw [hw]; exact HP21.2); have hp_ : Kd.R Kd.string 9 w22 w.heap.size (fun _ => True) (.slice (some ⟨go14, 0, none⟩) y105.length co14) y108 := (by rw [hw, Ny108.out]; exact HP21.1); clear HP21; have n0_ := Aside0.mk (hp_); have n1_ := Aside0.mk ((by rw [hw]; exact below_set (HB.out) GB14.out : Below w.heap.size w w22)); clear HO107; clear HB; have HO107 := n0_; have HB := n1_; clear n0_ n1_; clear hg hw hp_; have p16 : 0 ≤ (1 : Int) := (by omega); have q16 : (1 : Int) < ((y105.length : Int) : Int) := of_decide_eq_true (by first | (with_reducible assumption) | assumption); have qi16 : (1 < y105.length) = True := eq_true (by omega); obtain ⟨hx16_0, hf16_0⟩ := Kd.R_celln (⟨#[]⟩ : ByteArray) HO107.out (1 : Int) p16 q16; (try rw [show ((1 : Int)).toNat = 1 from rfl] at hx16_0); (try simp only [Nat.reduceMul, Nat.zero_mul, Nat.zero_add, Nat.reduceAdd] at hx16_0); (try rw [show ((1 : Int)).toNat = 1 from rfl] at hf16_0); (try simp only [Nat.reduceMul, Nat.zero_mul, Nat.zero_add, Nat.reduceAdd] at hf16_0); replace p16 := eq_true p16; replace q16 := eq_true q16; obtain ⟨hy23_, hz23_⟩ := Kd.R_celln (⟨#[]⟩ : ByteArray) HO107.out (1 : Int) (by omega) (of_decide_eq_true (by first | (with_reducible assumption) | assumption)); (try simp only [Int.reduceToNat, Int.toNat_zero, Int.toNat_ofNat, Nat.reduceMul, Nat.zero_mul, Nat.zero_add] at hy23_ hz23_); (try rw [show ((1 : Int)).toNat = 1 from rfl] at hy23_); (try rw [show ((1 : Int)).toNat = 1 from rfl] at hz23_); have HP23 := Kd.R_putg HO107.out (1 : Int) (⟨#[45]⟩ : ByteArray)) | ((with_reducible refine gate_store (t := 9) (p := 39) rfl ?_); refine store_event (t := 9) (p := 39) (v := ?vo_w24) (w1 := (w22.setCell ⟨go14, (1 : Int).toNat, none⟩ (.string (⟨#[45]⟩ : ByteArray)))) ?hg ?ho ?hn ?hr ?_; (case ho => rfl); (case hg => rfl); (case hn => rfl); (case hr => first | (go_simp; done) | (go_simp; rfl)); intro w24 hw; have hg : w22.grownBy w24 (some go14) := (by rw [hw]; exact HP23.2); have hp_ : Kd.R Kd.string 9 w24 w.heap.size (fun _ => True) (.slice (some ⟨go14, 0, none⟩) y105.length co14) y109 := (by rw [hw, Ny109.out]; exact HP23.1); clear HP23; have n0_ := Aside0.mk (hp_); have n1_ := Aside0.mk ((by rw [hw]; exact below_set (HB.out) GB14.out : Below w.heap.size w w24)); clear HO107; clear HB; have HO107 := n0_; have HB := n1_; clear n0_ n1_; clear hg hw hp_; have p18 : 0 ≤ (2 : Int) := (by omega); have q18 : (2 : Int) < ((y105.length : Int) : Int) := of_decide_eq_true (by first | (with_reducible assumption) | assumption); have qi18 : (2 < y105.length) = True := eq_true (by omega); obtain ⟨hx18_0, hf18_0⟩ := Kd.R_celln (⟨#[]⟩ : ByteArray) HO107.out (2 : Int) p18 q18; (try rw [show ((2 : Int)).toNat = 2 from rfl] at hx18_0); (try simp only [Nat.reduceMul, Nat.zero_mul, Nat.zero_add, Nat.reduceAdd] at hx18_0); (try rw [show ((2 : Int)).toNat = 2 from rfl] at hf18_0); (try simp only [Nat.reduceMul, Nat.zero_mul, Nat.zero_add, Nat.reduceAdd] at hf18_0); replace p18 := eq_true p18; replace q18 := eq_true q18; obtain ⟨hy25_, hz25_⟩ := Kd.R_celln (⟨#[]⟩ : ByteArray) HO107.out (2 : Int) (by omega) (of_decide_eq_true (by first | (with_reducible assumption) | assumption)); (try simp only [Int.reduceToNat, Int.toNat_zero, Int.toNat_ofNat, Nat.reduceMul, Nat.zero_mul, Nat.zero_add] at hy25_ hz25_); (try rw [show ((2 : Int)).toNat = 2 from rfl] at hy25_); (try rw [show ((2 : Int)).toNat = 2 from rfl] at hz25_); have HP25 := Kd.R_putg HO107.out (2 : Int) (⟨#[124]⟩ : ByteArray)) | ((with_reducible refine gate_store (t := 9) (p := 40) rfl ?_); refine store_event (t := 9) (p := 40) (v := ?vo_w26) (w1 := (w24.setCell ⟨go14, (2 : Int).toNat, none⟩ (.string (⟨#[124]⟩ : ByteArray)))) ?hg ?ho ?hn ?hr ?_; (case ho => rfl); (case hg => rfl); (case hn => rfl); (case hr => first | (go_simp; done) | (go_simp; rfl)); intro w26 hw; have hg : w24.grownBy w26 (some go14) := (by rw [hw]; exact HP25.2); have hp_ : Kd.R Kd.string 9 w26 w.heap.size (fun _ => True) (.slice (some ⟨go14, 0, none⟩) y105.length co14) y110 := (by rw [hw, Ny110.out]; exact HP25.1); clear HP25; have n0_ := Aside0.mk (hp_); have n1_ := Aside0.mk ((by rw [hw]; exact below_set (HB.out) GB14.out : Below w.heap.size w w26)); clear HO107; clear HB; have HO107 := n0_; have HB := n1_; clear n0_ n1_; clear hg hw hp_))
                      go_loopg [8, 9] kj8 (fun kq v8 v9 w' => ∃ (x7_3 : List ByteArray) (x8_3 : List Int) (x9_3 : Int), v9 = .int .i64 x9_3 ∧ Aside0 (laws_FnSymbolsCustom.l0 kq a0 l1 l2 x7_3 x8_3 x9_3 = some r) ∧ Aside0 (kq ≤ kj8) ∧ Aside0 (Kd.R Kd.string 9 w' w.heap.size (fun _ => True) (.slice (some ⟨go14, 0, none⟩) y105.length co14) x7_3) ∧ Aside0 (Kd.R (Kd.int .i64) 3 w' w.heap.size (fun _ => True) v8 x8_3) ∧ Aside0 (Below w.heap.size w w'))
                      case atStart => exact ⟨(y110), (([] : List Int)), (0), (by first | rfl | (simp; done) | (simp [*]; done)), H', ⟨Nat.le_refl _⟩, ⟨by (with_reducible repeat (first | apply Kd.R_alloc | apply Kd.R_drewN | apply Kd.R_drew)); exact HO107.out⟩, ⟨by first | exact Kd.R_nil _ _ _ _ _ | exact Kd.N_nil _ _ _ _ _ | exact Kd.V_nil _ _ _ _ _ | exact Kd.Q_nil _ _ _ _ _ | exact Kd.S_nil _ _ _ _ _⟩, ⟨by repeat (first | (with_reducible first | exact HB.out | apply below_alloc | apply pw_below_drewN | apply below_drew1) | exact HB.out)⟩⟩
                      case round =>
                        clear H'
                        try clear c1
                        try clear p1
                        try clear q1
                        try clear hx1
                        try clear qi1
                        try clear c2
                        try clear p2
                        try clear c5
                        try clear c5b0
                        try clear c5b1
                        try clear c6
                        try clear c6b0
                        try clear c6b1
                        try clear c8
                        try clear c9
                        try clear c10
                        try clear c10b0
                        try clear c10b1
                        try clear c10b2
                        try clear c11
                        try clear c12
                        try clear c12b0
                        try clear c12b1
                        try clear c13
                        try clear c13b0
                        try clear c13b1
                        try clear p14
                        try clear q14
                        try clear hx14
                        try clear qi14
                        try clear hf14
                        try clear c15
                        try clear c15b0
                        try clear c15b1
                        try clear p16
                        try clear q16
                        try clear hx16
                        try clear qi16
                        try clear hf16
                        try clear c17
                        try clear c17b0
                        try clear c17b1
                        try clear p18
                        try clear q18
                        try clear hx18
                        try clear qi18
                        try clear hf18
                        try clear hx14_0
                        try clear hx16_0
                        try clear hx18_0
                        try clear p14
                        try clear p16
                        try clear p18
                        try clear p2
                        try clear q14
                        try clear q16
                        try clear q18
                        obtain ⟨x7_3, x8_3, x9_3, rfl, HA, HK3, HO_7, HO_8, HB⟩ := hrel
                        have hl7_3 := (Kd.R_reads' HO_7.out).1
                        rw [hl7_3] at HO_7
                        (try simp only [hl7_3])
                        (try simp only [hl7_3] at HO_8)
                        cases gk with
                        | zero => exact absurd HA.out (by simp [laws_FnSymbolsCustom.l0])
                        | succ k3 =>
                          have H := HA.out
                          clear HA
                          simp only [laws_FnSymbolsCustom.l0] at H
                          by_cases c27 : x9_3 < (l1.length : Int)
                          · rw [if_pos c27] at H
                            have c27b0 : decide (x9_3 < (l1.length : Int)) = true := decide_eq_true c27
                            clear c27
                            by_cases c28 : 0 ≤ x9_3
                            · rw [if_pos c28] at H
                              have c28b0 : decide (0 ≤ x9_3) = true := decide_eq_true c28
                              clear c28
                              by_cases c29 : x8_3.length < 17592186044416
                              · rw [if_pos c29] at H
                                have LMc29 := Aside0.mk c29
                                clear c29
                                obtain ⟨y112, hy112⟩ : ∃ y_ : List Int, y_ = (x8_3 ++ [Int.tmod (wrap64 (rd l1 x9_3)) 14]) := ⟨_, rfl⟩
                                replace H : (if x9_3 < (y112.length : Int) then (if x9_3 < (l2.length : Int) then (if 0 ≤ (rd y112 x9_3) then (if (rd y112 x9_3) < (x7_3.length : Int) then (laws_FnSymbolsCustom.l0 k3 a0 l1 l2 (x7_3.set ((rd y112 x9_3) : Int).toNat (rdOf ByteArray.empty l2 x9_3)) y112 (wrap64 (x9_3 + 1))) else (none)) else (none)) else (none)) else (none)) = some r := by first | (rw [hy112]; with_reducible exact H) | (have H2_ := (Option.bind_some _ _).symm.trans H; rw [hy112]; with_reducible exact H2_) | (have H2_ := (Option.bind_some _ _).symm.trans H; with_reducible exact H2_) | with_reducible exact H | (rw [hy112]; exact H) | exact H
                                have Ny112 := Aside0.mk hy112
                                clear hy112
                                by_cases c30 : x9_3 < (y112.length : Int)
                                · rw [if_pos c30] at H
                                  have c30b0 : decide (x9_3 < (y112.length : Int)) = true := decide_eq_true c30
                                  clear c30
                                  by_cases c31 : x9_3 < (l2.length : Int)
                                  · rw [if_pos c31] at H
                                    have c31b0 : decide (x9_3 < (l2.length : Int)) = true := decide_eq_true c31
                                    clear c31
                                    by_cases c32 : 0 ≤ (rd y112 x9_3)
                                    · rw [if_pos c32] at H
                                      have c32b0 : decide (0 ≤ (rd y112 x9_3)) = true := decide_eq_true c32
                                      clear c32
                                      by_cases c33 : (rd y112 x9_3) < (x7_3.length : Int)
                                      · rw [if_pos c33] at H
                                        have c33b0 : decide ((rd y112 x9_3) < (x7_3.length : Int)) = true := decide_eq_true c33
                                        clear c33
                                        obtain ⟨y117, hy117⟩ : ∃ y_ : List ByteArray, y_ = (x7_3.set ((rd y112 x9_3) : Int).toNat (rdOf ByteArray.empty l2 x9_3)) := ⟨_, rfl⟩
                                        replace H : (laws_FnSymbolsCustom.l0 k3 a0 l1 l2 y117 y112 (wrap64 (x9_3 + 1))) = some r := by first | (rw [hy117]; with_reducible exact H) | (have H2_ := (Option.bind_some _ _).symm.trans H; rw [hy117]; with_reducible exact H2_) | (have H2_ := (Option.bind_some _ _).symm.trans H; with_reducible exact H2_) | with_reducible exact H | (rw [hy117]; exact H) | exact H
                                        have Ny117 := Aside0.mk hy117
                                        clear hy117
                                        have H' := Aside0.mk H
                                        clear H
                                        have p111 : 0 ≤ (x9_3 : Int) := of_decide_eq_true (by first | (with_reducible assumption) | assumption)
                                        have q111 : x9_3 < (l1.length : Int) := of_decide_eq_true (by first | (with_reducible assumption) | assumption)
                                        obtain ⟨ad111, e111, hx111_0⟩ := Kd.at_int HR1.out x9_3 p111 q111
                                        cases e111
                                        replace hx111_0 := (HB.out.cell (World.block_lt_of_cell? w _ hx111_0)).trans hx111_0
                                        replace p111 := eq_true p111
                                        replace q111 := eq_true q111
                                        try go_wp2_with (first | ((with_reducible refine gate_builtin (b := .append) (xs := #[.tmp 47, .tmp 54]) rfl ?_); (try (refine gate_guard (by rfl) ?_; dsimp only)); at_builtin; refine Kd.R_append (Kd.int .i64) (w0 := w) w.heap.size rfl (.tmp 47) (.tmp 54) 35 3 (.int .i64 0) 8 rfl Try.underlying35 info3 rfl (by decide) (by omega) u8 x8_3 (Int.tmod (wrap64 (rd l1 x9_3)) 14) [.int .i64 (Int.tmod (wrap64 (rd l1 x9_3)) 14)] (fun _ => True) (fun _ => False) rfl rfl ?aP (fun _ hk => hk.elim) ?aF ?aO ?aB ?aS ?aL ?_; (case aP => exact rfl); (case aB => exact (by repeat (first | (with_reducible first | exact HB.out | apply below_alloc | apply pw_below_drewN | apply below_drew1) | exact HB.out))); (case aF => exact (fun _ _ => trivial)); (case aO => exact (by (with_reducible repeat (first | apply Kd.R_alloc | apply Kd.R_drewN | apply Kd.R_drew)); exact HO_8.out)); (case aS => exact (below_size (by repeat (first | (with_reducible first | exact HB.out | apply below_alloc | apply pw_below_drewN | apply below_drew1) | exact HB.out)))); (case aL => have := LMc29.out; omega); intro v113 w35 ho hb hg hat; rw [← Ny112.out] at ho; have n0_ := Aside0.mk (Kd.R_over' (by (with_reducible repeat (first | apply Kd.R_alloc | apply Kd.R_drewN | apply Kd.R_drew)); exact HO_7.out) (Kd.R_typed (by (with_reducible repeat (first | apply Kd.R_alloc | apply Kd.R_drewN | apply Kd.R_drew)); exact HO_8.out)) (by decide) hg); have n1_ := Aside0.mk (hb); have n2_ := Aside0.mk (ho); clear HO_7; clear HB; clear HO_8; have HO_7 := n0_; have HB := n1_; have HO114 := n2_; clear n0_ n1_ n2_; clear ho hb hg hat))
                                        have n0_ := Aside0.mk (Kd.R_drew HO_7.out)
                                        have n1_ := Aside0.mk (Kd.R_drew HO114.out)
                                        have n2_ := Aside0.mk (below_drew1 HB.out)
                                        clear HO_7
                                        clear HO114
                                        clear HB
                                        have HO_7 := n0_
                                        have HO114 := n1_
                                        have HB := n2_
                                        clear n0_ n1_ n2_
                                        obtain ⟨Ao37, co37, eo37⟩ := Kd.R_slice HO114.out
                                        (first | subst eo37 | (injection eo37 with f1_ f2_ f3_; have f4_ := f1_.symm; have f5_ := f3_.symm; clear f1_ f2_ f3_; subst f4_; subst f5_))
                                        have p115 : 0 ≤ (x9_3 : Int) := of_decide_eq_true (by first | (with_reducible assumption) | assumption)
                                        have q115 : x9_3 < (y112.length : Int) := of_decide_eq_true (by first | (with_reducible assumption) | assumption)
                                        obtain ⟨ad115, e115, hx115_0⟩ := Kd.at_int (Kd.R_reads' HO114.out).2.2 x9_3 p115 q115
                                        cases e115
                                        replace p115 := eq_true p115
                                        replace q115 := eq_true q115
                                        have p116 : 0 ≤ (x9_3 : Int) := of_decide_eq_true (by first | (with_reducible assumption) | assumption)
                                        have q116 : x9_3 < (l2.length : Int) := of_decide_eq_true (by first | (with_reducible assumption) | assumption)
                                        obtain ⟨ad116, e116, hx116_0⟩ := Kd.at_string HR2.out x9_3 p116 q116
                                        have hw116_0 := hx116_0
                                        cases e116
                                        replace hx116_0 := (HB.out.cell (World.block_lt_of_cell? w _ hx116_0)).trans hx116_0
                                        replace p116 := eq_true p116
                                        replace q116 := eq_true q116
                                        have p34 : 0 ≤ ((rd y112 x9_3) : Int) := of_decide_eq_true (by first | (with_reducible assumption) | assumption)
                                        have q34 : ((rd y112 x9_3) : Int) < ((x7_3.length : Int) : Int) := of_decide_eq_true (by first | (with_reducible assumption) | assumption)
                                        obtain ⟨hx34_0, hf34_0⟩ := Kd.R_celln (⟨#[]⟩ : ByteArray) HO_7.out ((rd y112 x9_3) : Int) p34 q34
                                        replace p34 := eq_true p34
                                        replace q34 := eq_true q34
                                        have HP38 := Kd.R_putn HO_7.out ((rd y112 x9_3) : Int) (rdOf ByteArray.empty l2 x9_3)
                                        rw [← Ny117.out] at HP38
                                        have HQ38 := Aside0.mk HP38
                                        clear HP38
                                        refine start_ (n := 11) (S := fun w' => w'.cell? (ad115.add (x9_3).toNat) = some (.int .i64 (rd y112 x9_3)) ∧ w'.cell? (ad116.add (x9_3).toNat) = some (.string (rdOf ByteArray.empty l2 x9_3))) (ds := [10]) #[false, false, false, false, false, false, false, false, false, false, false] (by kernel_rfl) rfl rfl ⟨hx115_0, ((HB.out.cell (World.block_lt_of_cell? w _ hw116_0)).trans hw116_0)⟩ (fun hHeld => ?_); refine with_tabW laws_FnSymbolsCustom.tab12 laws_FnSymbolsCustom.bits12 (fun HT_ HW_ => ?_)
                                        generalize w35.drew = w36 at HO_7 HO114 HB HQ38 hf34_0 hx115_0 hx116_0 hx34_0 hHeld ⊢
                                        refine pure_ (i := 0) (N := some 56) (v := ?_) (a' := ?_) #[true, false, false, false, false, false, false, false, false, false, false] rfl rfl (any_of HT_.out (by kernel_rfl)) (fun _ _ _ h => h) (Or.inl ⟨by rfl, ?_⟩) ?_ ?_
                                        rotate_left
                                        · intro w'
                                          go_simp
                                          with_reducible rfl
                                        rotate_left
                                        · simp only [Act.put, List.setIfInBounds_toArray, List.set_cons_zero, List.set_cons_succ, i64_w, i32_w]
                                          rfl
                                        refine pure_ (i := 1) (N := some 57) (v := ?_) (a' := ?_) #[true, true, false, false, false, false, false, false, false, false, false] rfl rfl (any_of HT_.out (by kernel_rfl)) (fun _ _ _ h => h) (Or.inl ⟨by rfl, ?_⟩) ?_ ?_
                                        rotate_left
                                        · intro w'
                                          go_simp
                                          with_reducible rfl
                                        rotate_left
                                        · simp only [Act.put, List.setIfInBounds_toArray, List.set_cons_zero, List.set_cons_succ, i64_w, i32_w]
                                          rfl
                                        refine pure_ (i := 2) (N := some 58) (v := ?_) (a' := ?_) #[true, true, true, false, false, false, false, false, false, false, false] rfl rfl (any_of HT_.out (by kernel_rfl)) (fun _ _ _ h => h) (Or.inl ⟨by rfl, ?_⟩) ?_ ?_
                                        rotate_left
                                        · intro w'
                                          go_simp
                                          with_reducible rfl
                                        rotate_left
                                        · simp only [Act.put, List.setIfInBounds_toArray, List.set_cons_zero, List.set_cons_succ, i64_w, i32_w]
                                          rfl
                                        refine pure_ (i := 3) (N := some 59) (v := ?_) (a' := ?_) #[true, true, true, true, false, false, false, false, false, false, false] rfl rfl (any_of HT_.out (by kernel_rfl)) (fun _ _ _ h => h) (Or.inl ⟨by rfl, ?_⟩) ?_ ?_
                                        rotate_left
                                        · intro w'
                                          go_simp
                                          with_reducible rfl
                                        rotate_left
                                        · simp only [Act.put, List.setIfInBounds_toArray, List.set_cons_zero, List.set_cons_succ, i64_w, i32_w]
                                          rfl
                                        refine pure_ (i := 5) (N := some 61) (v := ?_) (a' := ?_) #[true, true, true, true, false, true, false, false, false, false, false] rfl rfl (any_of HT_.out (by kernel_rfl)) (fun _ _ _ h => h) (Or.inl ⟨by rfl, ?_⟩) ?_ ?_
                                        rotate_left
                                        · intro w'
                                          go_simp
                                          with_reducible rfl
                                        rotate_left
                                        · simp only [Act.put, List.setIfInBounds_toArray, List.set_cons_zero, List.set_cons_succ, i64_w, i32_w]
                                          rfl
                                        refine pure_ (i := 6) (N := some 62) (v := ?_) (a' := ?_) #[true, true, true, true, false, true, true, false, false, false, false] rfl rfl (any_of HT_.out (by kernel_rfl)) (fun _ _ _ h => h) (Or.inl ⟨by rfl, ?_⟩) ?_ ?_
                                        rotate_left
                                        · intro w'
                                          go_simp
                                          with_reducible rfl
                                        rotate_left
                                        · simp only [Act.put, List.setIfInBounds_toArray, List.set_cons_zero, List.set_cons_succ, i64_w, i32_w]
                                          rfl
                                        refine pure_ (i := 7) (N := some 63) (v := ?_) (a' := ?_) #[true, true, true, true, false, true, true, true, false, false, false] rfl rfl (any_of HT_.out (by kernel_rfl)) (fun _ _ _ h => h) (Or.inl ⟨by rfl, ?_⟩) ?_ ?_
                                        rotate_left
                                        · intro w'
                                          go_simp
                                          with_reducible rfl
                                        rotate_left
                                        · simp only [Act.put, List.setIfInBounds_toArray, List.set_cons_zero, List.set_cons_succ, i64_w, i32_w]
                                          rfl
                                        refine take_ (i := 4) (N := some 60) (v := ?_) (a' := ?_) #[true, true, true, true, true, true, true, true, false, false, false] rfl rfl (take_ofW HT_.out HW_.out (by kernel_rfl)) (fun _ _ _ h => h) (Or.inl ⟨by rfl, ?_⟩) hHeld ?_ ?_
                                        rotate_left
                                        · rintro w' ⟨s0, s1⟩
                                          go_simp
                                          with_reducible rfl
                                        rotate_left
                                        · simp only [Act.put, List.setIfInBounds_toArray, List.set_cons_zero, List.set_cons_succ, i64_w, i32_w]
                                          rfl
                                        refine take_ (i := 8) (N := some 64) (v := ?_) (a' := ?_) #[true, true, true, true, true, true, true, true, true, false, false] rfl rfl (take_ofW HT_.out HW_.out (by kernel_rfl)) (fun _ _ _ h => h) (Or.inl ⟨by rfl, ?_⟩) hHeld ?_ ?_
                                        rotate_left
                                        · rintro w' ⟨s0, s1⟩
                                          go_simp
                                          with_reducible rfl
                                        rotate_left
                                        · simp only [Act.put, List.setIfInBounds_toArray, List.set_cons_zero, List.set_cons_succ, i64_w, i32_w]
                                          rfl
                                        refine pure_ (i := 9) (N := some 65) (v := ?_) (a' := ?_) #[true, true, true, true, true, true, true, true, true, true, false] rfl rfl (any_of HT_.out (by kernel_rfl)) (fun _ _ _ h => h) (Or.inl ⟨by rfl, ?_⟩) ?_ ?_
                                        rotate_left
                                        · intro w'
                                          go_simp
                                          with_reducible rfl
                                        rotate_left
                                        · simp only [Act.put, List.setIfInBounds_toArray, List.set_cons_zero, List.set_cons_succ, i64_w, i32_w]
                                          rfl
                                        refine last_ (i := 10) (N := none) #[true, true, true, true, true, true, true, true, true, true, true] rfl rfl (one_of HT_.out (by kernel_rfl)) (by decide) (fun K hK => ?_)
                                        refine skip_ (w1 := ?_) (by rfl) rfl ?_ ?_
                                        rotate_left
                                        · go_simp
                                          rfl
                                        refine hK.out _ _ ?_
                                        clear hK K
                                        refine done_ (done_of HT_.out (by kernel_rfl)) ?_
                                        try go_wp2
                                        (try simp only [← hl7_3])
                                        go_roundg k3
                                        case measure => have := HJ3.out; have := HJ8.out; have := HK3.out; omega
                                        case rel => exact ⟨(y117), (y112), (wrap64 (x9_3 + 1)), (by first | rfl | (simp; done) | (simp [*]; done)), H', ⟨by have := HJ3.out; have := HJ8.out; have := HK3.out; omega⟩, ⟨by (try simp only [hl7_3]); (with_reducible repeat (first | apply Kd.R_alloc | apply Kd.R_drewN | apply Kd.R_drew)); exact HQ38.out⟩, ⟨by (try simp only [hl7_3]); (with_reducible repeat (first | apply Kd.R_alloc | apply Kd.R_drewN | apply Kd.R_drew)); (obtain ⟨inner_, ho_, _⟩ := HO_7.out.2; obtain ⟨cl_, hcl_⟩ := own_typed ho_ go14 (by simp [Value.ownBlock]); exact Kd.R_set HO114.out hcl_ (by decide) _ _)⟩, ⟨by repeat (first | (with_reducible first | exact HB.out | apply below_alloc | apply pw_below_drewN | apply below_drew1 | refine below_set ?_ GB14.out) | exact HB.out)⟩⟩
                                      · rw [if_neg c33] at H
                                        exact absurd H (by simp)
                                    · rw [if_neg c32] at H
                                      exact absurd H (by simp)
                                  · rw [if_neg c31] at H
                                    exact absurd H (by simp)
                                · rw [if_neg c30] at H
                                  exact absurd H (by simp)
                              · rw [if_neg c29] at H
                                exact absurd H (by simp)
                            · rw [if_neg c28] at H
                              exact absurd H (by simp)
                          · rw [if_neg c27] at H
                            have c27b0 : decide (x9_3 < (l1.length : Int)) = false := decide_eq_false c27
                            clear c27
                            replace H := Option.bind_eq_some_iff.mp H
                            obtain ⟨⟨t118, t119⟩, A390, H⟩ := H
                            replace H : (if t118.toList = a0.toList then ((spec_TwTexts.f k3 t119 x7_3).bind fun t123 => (some t123)) else (some false)) = some r := H
                            have A39 := Aside0.mk A390
                            clear A390
                            by_cases c40 : t118.toList = a0.toList
                            · rw [if_pos c40] at H
                              have c40b0 : (t118.toList == a0.toList) = true := beq_iff_eq.mpr c40
                              have c40b1 : (t118.toList != a0.toList) = false := bne_eq_false_iff_eq.mpr c40
                              clear c40
                              replace H := Option.bind_eq_some_iff.mp H
                              obtain ⟨t123, A410, H⟩ := H
                              replace H : (some t123) = some r := H
                              have A41 := Aside0.mk A410
                              clear A410
                              obtain rfl := Option.some.inj H
                              obtain ⟨Ao42, co42, eo42⟩ := Kd.R_slice HO_8.out
                              subst eo42
                              go_wp2_with (first | ((with_reducible refine gate_callee (f := 28) rfl ?_); refine goesL_ (some 69) rfl rfl Try.func28 (by kernel_rfl) rfl #[.string a0, .slice Ao42 x8_3.length co42, .slice A2 l2.length c2] rfl (by (try simp only [List.map_toArray, List.map_cons, List.map_nil]); first | done | rfl | (simp only [List.length_drop, List.length_take]; rfl)) ?_; (with_reducible refine (impl_TwSymbolsCustom.calls a0 _ _ x8_3 _ _ l2 t118 t119 _ ?side1 ?side2 ?side3 ?side4 A39.out).mono ?_); (case side1 => repeat (first | exact (Kd.R_reads' HO_8.out).2.2 | (with_reducible refine Kd.C_alloc ?_ _) | (with_reducible refine Kd.C_drewN ?_ _) | (with_reducible refine Kd.C_drew ?_))); (case side2 => exact (Kd.R_reads' HO_8.out).2.1); (case side3 => repeat (first | exact (Kd.C_below HR2.out HB.out) | (with_reducible refine Kd.C_alloc ?_ _) | (with_reducible refine Kd.C_drewN ?_ _) | (with_reducible refine Kd.C_drew ?_))); (case side4 => exact HC2.out); rintro e w43 ⟨v120, rfl, ho0, hb⟩; refine ⟨_, rfl, ?_⟩; have n0_ := Aside0.mk (Kd.R_elder' (by (with_reducible repeat (first | apply Kd.R_alloc | apply Kd.R_drewN | apply Kd.R_drew)); exact HO_7.out) (Kd.R_base ho0) hb); have n1_ := Aside0.mk (Kd.R_below (by (with_reducible repeat (first | apply Kd.R_alloc | apply Kd.R_drewN | apply Kd.R_drew)); exact HO_8.out) hb); have n2_ := Aside0.mk (Kd.R_lower (Kd.R_new' ho0 (Kd.R_lt (by (with_reducible repeat (first | apply Kd.R_alloc | apply Kd.R_drewN | apply Kd.R_drew)); exact HO_7.out))) (below_size (by repeat (first | (with_reducible first | exact HB.out | apply below_alloc | apply pw_below_drewN | apply below_drew1) | exact HB.out)))); have n3_ := Aside0.mk (below_step (by repeat (first | (with_reducible first | exact HB.out | apply below_alloc | apply pw_below_drewN | apply below_drew1) | exact HB.out)) hb); clear HO_7; clear HO_8; clear HB; have HO_7 := n0_; have HO_8 := n1_; have HO121 := n2_; have HB := n3_; clear n0_ n1_ n2_ n3_; (try clear hb); (try clear hb2); (try clear hk); (try clear hi); (try clear ho0)) | ((with_reducible refine gate_dst (N := 10) rfl ?_); (try (refine gate_guard (by rfl) ?_; dsimp only)); refine box_event ?hg (N := 10) ?hd (cs := #[.string (⟨#[]⟩ : ByteArray), .slice none 0 0]) (t := 48) ?hr ?_; (case hd => rfl); (case hg => rfl); (case hr => first | (go_simp; done) | (go_simp; rfl)); intro gb122 hg w44 hbox hb; have n0_ := Aside0.mk (Kd.R_below (by (with_reducible repeat (first | apply Kd.R_alloc | apply Kd.R_drewN | apply Kd.R_drew)); exact HO_7.out) hb); have n1_ := Aside0.mk (Kd.R_below (by (with_reducible repeat (first | apply Kd.R_alloc | apply Kd.R_drewN | apply Kd.R_drew)); exact HO_8.out) hb); have n2_ := Aside0.mk (Kd.R_below (by (with_reducible repeat (first | apply Kd.R_alloc | apply Kd.R_drewN | apply Kd.R_drew)); exact HO121.out) hb); have n3_ := Aside0.mk (below_step (by repeat (first | (with_reducible first | exact HB.out | apply below_alloc | apply pw_below_drewN | apply below_drew1) | exact HB.out)) hb); have n4_ := Aside0.mk (hbox); have n5_ := Aside0.mk ((by rw [hg]; exact (below_size (by repeat (first | (with_reducible first | exact HB.out | apply below_alloc | apply pw_below_drewN | apply below_drew1) | exact HB.out))) : w.heap.size ≤ gb122)); have n6_ := Aside0.mk ((by rw [hg]; exact (below_size (by repeat (first | (with_reducible first | exact HB.out | apply below_alloc | apply pw_below_drewN | apply below_drew1) | exact HB.out))) : w.heap.size ≤ gb122)); clear HO_7; clear HO_8; clear HO121; clear HB; have HO_7 := n0_; have HO_8 := n1_; have HO121 := n2_; have HB := n3_; have BK122 := n4_; have GW122 := n5_; have GE122 := n6_; clear n0_ n1_ n2_ n3_ n4_ n5_ n6_; clear hb hbox hg; have hcz45_0 : w44.cell? ⟨gb122, 0, none⟩ = some (.string (⟨#[]⟩ : ByteArray)) := (blk_cell BK122.out 0).trans rfl; have hcz45_1 : w44.cell? ⟨gb122, 1, none⟩ = some (.slice none 0 0) := (blk_cell BK122.out 1).trans rfl; have hfz45_0 := blk_frozen BK122.out 0; have hfz45_1 := blk_frozen BK122.out 1; obtain ⟨Ao46, co46, eo46⟩ := Kd.R_slice HO121.out; subst eo46) | (go_at_call 29; (with_reducible refine (spec_TwTexts.calls k3 _ _ t119 _ _ x7_3 t123 _ ?side1 ?side2 ?side3 ?side4 A41.out).mono ?_); (case side1 => refine (Kd.R_reads' (e := 9) (base := w.heap.size) (ok := fun k_ => (True ∧ some k_ ≠ (.slice (some ⟨go14, 0, none⟩) x7_3.length co14 : Value).ownBlock)) (n := t119.length) (c := co46) ?_).2.2; exact (by (with_reducible repeat (first | apply Kd.R_alloc | apply Kd.R_drewN | apply Kd.R_drew)); exact (Kd.R_mono (Kd.R_far (p := ⟨gb122, 1, none⟩) (Kd.R_far (p := ⟨gb122, 0, none⟩) (Kd.R_types HO121.out BK122.out (by decide)) (fun _ hk => hk.2) (.string t118)) (fun _ hk => hk.2) (.slice Ao46 t119.length co46)) (fun _ h_ => h_.1)))); (case side2 => exact (Kd.R_reads' HO121.out).2.1); (case side3 => refine (Kd.R_reads' (e := 9) (base := w.heap.size) (ok := fun k_ => (True ∧ some k_ ≠ (.slice Ao46 t119.length co46 : Value).ownBlock)) (n := x7_3.length) (c := co14) ?_).2.2; exact (by (with_reducible repeat (first | apply Kd.R_alloc | apply Kd.R_drewN | apply Kd.R_drew)); exact (Kd.R_mono (Kd.R_far (p := ⟨gb122, 1, none⟩) (Kd.R_far (p := ⟨gb122, 0, none⟩) (Kd.R_types HO_7.out BK122.out (by decide)) (fun _ hk => hk.2) (.string t118)) (fun _ hk => hk.2) (.slice Ao46 t119.length co46)) (fun _ h_ => h_.1)))); (case side4 => exact (Kd.R_reads' HO_7.out).2.1); rintro e w' ⟨rfl, ⟨nd, rfl⟩⟩))
                              go_ret
                              exact ⟨by first | rfl | (simp [errW_none, errW_some] <;> rfl) | (simp [*, errW_none, errW_some] <;> rfl), by repeat (first | (with_reducible first | exact HB.out | apply below_alloc | apply pw_below_drewN | apply below_drew1 | refine below_set ?_ GE122.out) | exact HB.out)⟩
                            · rw [if_neg c40] at H
                              have c40b0 : (t118.toList == a0.toList) = false := beq_eq_false_iff_ne.mpr c40
                              have c40b1 : (t118.toList != a0.toList) = true := bne_iff_ne.mpr c40
                              obtain rfl := Option.some.inj H
                              obtain ⟨Ao47, co47, eo47⟩ := Kd.R_slice HO_8.out
                              subst eo47
                              go_wp2_with (first | ((with_reducible refine gate_callee (f := 28) rfl ?_); refine goesL_ (some 69) rfl rfl Try.func28 (by kernel_rfl) rfl #[.string a0, .slice Ao47 x8_3.length co47, .slice A2 l2.length c2] rfl (by (try simp only [List.map_toArray, List.map_cons, List.map_nil]); first | done | rfl | (simp only [List.length_drop, List.length_take]; rfl)) ?_; (with_reducible refine (impl_TwSymbolsCustom.calls a0 _ _ x8_3 _ _ l2 t118 t119 _ ?side1 ?side2 ?side3 ?side4 A39.out).mono ?_); (case side1 => repeat (first | exact (Kd.R_reads' HO_8.out).2.2 | (with_reducible refine Kd.C_alloc ?_ _) | (with_reducible refine Kd.C_drewN ?_ _) | (with_reducible refine Kd.C_drew ?_))); (case side2 => exact (Kd.R_reads' HO_8.out).2.1); (case side3 => repeat (first | exact (Kd.C_below HR2.out HB.out) | (with_reducible refine Kd.C_alloc ?_ _) | (with_reducible refine Kd.C_drewN ?_ _) | (with_reducible refine Kd.C_drew ?_))); (case side4 => exact HC2.out); rintro e w48 ⟨v120, rfl, ho0, hb⟩; refine ⟨_, rfl, ?_⟩; have n0_ := Aside0.mk (Kd.R_elder' (by (with_reducible repeat (first | apply Kd.R_alloc | apply Kd.R_drewN | apply Kd.R_drew)); exact HO_7.out) (Kd.R_base ho0) hb); have n1_ := Aside0.mk (Kd.R_below (by (with_reducible repeat (first | apply Kd.R_alloc | apply Kd.R_drewN | apply Kd.R_drew)); exact HO_8.out) hb); have n2_ := Aside0.mk (Kd.R_lower (Kd.R_new' ho0 (Kd.R_lt (by (with_reducible repeat (first | apply Kd.R_alloc | apply Kd.R_drewN | apply Kd.R_drew)); exact HO_7.out))) (below_size (by repeat (first | (with_reducible first | exact HB.out | apply below_alloc | apply pw_below_drewN | apply below_drew1) | exact HB.out)))); have n3_ := Aside0.mk (below_step (by repeat (first | (with_reducible first | exact HB.out | apply below_alloc | apply pw_below_drewN | apply below_drew1) | exact HB.out)) hb); clear HO_7; clear HO_8; clear HB; have HO_7 := n0_; have HO_8 := n1_; have HO121 := n2_; have HB := n3_; clear n0_ n1_ n2_ n3_; (try clear hb); (try clear hb2); (try clear hk); (try clear hi); (try clear ho0)) | ((with_reducible refine gate_dst (N := 10) rfl ?_); (try (refine gate_guard (by rfl) ?_; dsimp only)); refine box_event ?hg (N := 10) ?hd (cs := #[.string (⟨#[]⟩ : ByteArray), .slice none 0 0]) (t := 48) ?hr ?_; (case hd => rfl); (case hg => rfl); (case hr => first | (go_simp; done) | (go_simp; rfl)); intro gb122 hg w49 hbox hb; have n0_ := Aside0.mk (Kd.R_below (by (with_reducible repeat (first | apply Kd.R_alloc | apply Kd.R_drewN | apply Kd.R_drew)); exact HO_7.out) hb); have n1_ := Aside0.mk (Kd.R_below (by (with_reducible repeat (first | apply Kd.R_alloc | apply Kd.R_drewN | apply Kd.R_drew)); exact HO_8.out) hb); have n2_ := Aside0.mk (Kd.R_below (by (with_reducible repeat (first | apply Kd.R_alloc | apply Kd.R_drewN | apply Kd.R_drew)); exact HO121.out) hb); have n3_ := Aside0.mk (below_step (by repeat (first | (with_reducible first | exact HB.out | apply below_alloc | apply pw_below_drewN | apply below_drew1) | exact HB.out)) hb); have n4_ := Aside0.mk (hbox); have n5_ := Aside0.mk ((by rw [hg]; exact (below_size (by repeat (first | (with_reducible first | exact HB.out | apply below_alloc | apply pw_below_drewN | apply below_drew1) | exact HB.out))) : w.heap.size ≤ gb122)); have n6_ := Aside0.mk ((by rw [hg]; exact (below_size (by repeat (first | (with_reducible first | exact HB.out | apply below_alloc | apply pw_below_drewN | apply below_drew1) | exact HB.out))) : w.heap.size ≤ gb122)); clear HO_7; clear HO_8; clear HO121; clear HB; have HO_7 := n0_; have HO_8 := n1_; have HO121 := n2_; have HB := n3_; have BK122 := n4_; have GW122 := n5_; have GE122 := n6_; clear n0_ n1_ n2_ n3_ n4_ n5_ n6_; clear hb hbox hg; have hcz50_0 : w49.cell? ⟨gb122, 0, none⟩ = some (.string (⟨#[]⟩ : ByteArray)) := (blk_cell BK122.out 0).trans rfl; have hcz50_1 : w49.cell? ⟨gb122, 1, none⟩ = some (.slice none 0 0) := (blk_cell BK122.out 1).trans rfl; have hfz50_0 := blk_frozen BK122.out 0; have hfz50_1 := blk_frozen BK122.out 1; obtain ⟨Ao51, co51, eo51⟩ := Kd.R_slice HO121.out; subst eo51))
                              go_ret
                              exact ⟨by first | rfl | (simp [errW_none, errW_some] <;> rfl) | (simp [*, errW_none, errW_some] <;> rfl), by repeat (first | (with_reducible first | exact HB.out | apply below_alloc | apply pw_below_drewN | apply below_drew1 | refine below_set ?_ GE122.out) | exact HB.out)⟩
                    · rw [if_neg c17] at H
                      exact absurd H (by simp)
                  · rw [if_neg c15] at H
                    exact absurd H (by simp)
                · rw [if_neg c13] at H
                  exact absurd H (by simp)
              · rw [if_neg c12] at H
                exact absurd H (by simp)

end Go.Proofs.Ytjoagjkmghmnnaa.GFnSymbolsCustom
