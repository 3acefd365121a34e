-- printed by a program of this session (gprint.py) out of the translation; Lean checks it
import Derived.Test.YtjioibigijflpaaDoorGFnCamelDigitsx0
import Derived.Test.YtjioibigijflpaaDoorGivenCam
namespace Go.Proofs.YtjioibigijflpaaDoor.GFnCamelDigits
open Go.RowKit Go.Proofs.YtjioibigijflpaaDoorW.PrintWords Go.Proofs.YtjioibigijflpaaDoorW.PrintLast Go.Proofs.YtjioibigijflpaaDoor.GivenCam Go.Proofs.YtjioibigijflpaaDoorW.PrintMore
attribute [local go_sem] max2_int min2_int max_two min_two max_three min_three max_four min_four   -- for this text's walks alone
set_option linter.unusedVariables false
set_option linter.unusedSimpArgs false

/-! ### spec_TwTexts: function 8 -/
def spec_TwTexts.l0 : Nat → List ByteArray → List ByteArray → Int → Option (Bool)
  | 0, _, _, _ => none
  | k + 1, x0, x1, x5 => if x5 < (x0.length : Int) then (if 0 ≤ x5 then (if x5 < (x1.length : Int) then (if (rdOf ByteArray.empty x0 x5).toList = (rdOf ByteArray.empty x1 x5).toList then (spec_TwTexts.l0 k x0 x1 (wrap64 (x5 + 1))) else (some false)) else (none)) else (none)) else (some true)
def spec_TwTexts.f (k : Nat) (l0 : List ByteArray) (l1 : List ByteArray) : Option (Bool) := if (l0.length : Int) = (l1.length : Int) then (spec_TwTexts.l0 k l0 l1 0) else (some false)
theorem spec_TwTexts.mono_l : ∀ k, (∀ y0 y1 y2, LeO (spec_TwTexts.l0 k y0 y1 y2) (spec_TwTexts.l0 (k + 1) y0 y1 y2))
  | 0 => fun _ _ _ r h => by simp [spec_TwTexts.l0] at h
  | k + 1 => by
    have ih0 := spec_TwTexts.mono_l k
    · intro y0 y1 y2
      unfold spec_TwTexts.l0
      repeat' first
      | (with_reducible exact ih0 _ _ _)
      | (with_reducible exact LeO.refl _)
      | (with_reducible exact LeO.none _)
      | (with_reducible refine LeO.ite ?_ ?_)
      | (with_reducible refine LeO.bind ?_ (fun _ => ?_))
      | exact ih0 _ _ _
      | exact LeO.none _
      | refine LeO.ite ?_ ?_
      | refine LeO.bind ?_ (fun _ => ?_)
theorem spec_TwTexts.mono : ∀ a0 a1 k, LeO (spec_TwTexts.f k a0 a1) (spec_TwTexts.f (k + 1) a0 a1) := by
  intro a0 a1 k
  have ih0 := spec_TwTexts.mono_l k
  unfold spec_TwTexts.f
  repeat' first
      | (with_reducible exact ih0 _ _ _)
      | (with_reducible exact LeO.refl _)
      | (with_reducible exact LeO.none _)
      | (with_reducible refine LeO.ite ?_ ?_)
      | (with_reducible refine LeO.bind ?_ (fun _ => ?_))
      | exact ih0 _ _ _
      | exact LeO.none _
      | refine LeO.ite ?_ ?_
      | refine LeO.bind ?_ (fun _ => ?_)
set_option maxHeartbeats 8000000 in
set_option maxRecDepth 100000 in
theorem spec_TwTexts.calls (k : Nat) (A0 : Option Addr) (c0 : Nat) (l0 : List ByteArray) (A1 : Option Addr) (c1 : Nat) (l1 : List ByteArray) (r : Bool) (w : World) (hr0 : Kd.C Kd.string w A0 l0.length l0) (hc0 : l0.length ≤ c0) (hr1 : Kd.C Kd.string w A1 l1.length l1) (hc1 : l1.length ≤ c1) (h : spec_TwTexts.f k l0 l1 = some r) :
    Calls Tryd.prog 8 #[.slice A0 l0.length c0, .slice A1 l1.length c1] w fun e w' => e = .returned (.bool r) ∧ Drawn0 w w' := by
  have HR0 := Aside0.mk hr0
  have HC0 := Aside0.mk hc0
  clear hr0 hc0
  have HR1 := Aside0.mk hr1
  have HC1 := Aside0.mk hc1
  clear hr1 hc1
  have H : (if (l0.length : Int) = (l1.length : Int) then (spec_TwTexts.l0 k l0 l1 0) else (some false)) = some r := h
  clear h
  by_cases c3 : (l0.length : Int) = (l1.length : Int)
  · rw [if_pos c3] at H
    have c3b0 : ((l0.length : Int) == (l1.length : Int)) = true := beq_iff_eq.mpr c3
    have c3b1 : ((l0.length : Int) != (l1.length : Int)) = false := bne_eq_false_iff_eq.mpr c3
    have c3b2 : (l0.length == l1.length) = true := by first | simpa using c3 | (simp at c3 ⊢; omega)
    clear c3
    have H' := Aside0.mk H
    clear H
    go_enter Tryd.func8, Tryd.ntmps8
    go_wp2
    repeat (go_quiet (fail); try go_wp2)
    go_loopg [5] k (fun kq v5 w' => ∃ (x5_1 : Int), v5 = .int .i64 x5_1 ∧ Aside0 (spec_TwTexts.l0 kq l0 l1 x5_1 = some r) ∧ Aside0 (kq ≤ k) ∧ Drawn0 w w')
    case atStart => exact ⟨(0), (by first | rfl | (simp; done) | (simp [*]; done)), H', ⟨Nat.le_refl _⟩, by repeat (first | exact Drawn0.refl _ | apply Drawn0.step)⟩
    case round =>
      clear H'
      try clear c1
      try clear p2
      try clear c3
      try clear c3b0
      try clear c3b1
      try clear c3b2
      obtain ⟨x5_1, rfl, HA, HK1, ⟨m1, rfl⟩⟩ := hrel
      cases gk with
      | zero => exact absurd HA.out (by simp [spec_TwTexts.l0])
      | succ k1 =>
        have H := HA.out
        clear HA
        simp only [spec_TwTexts.l0] at H
        by_cases c4 : x5_1 < (l0.length : Int)
        · rw [if_pos c4] at H
          have c4b0 : decide (x5_1 < (l0.length : Int)) = true := decide_eq_true c4
          clear c4
          by_cases c5 : 0 ≤ x5_1
          · rw [if_pos c5] at H
            have c5b0 : decide (0 ≤ x5_1) = true := decide_eq_true c5
            clear c5
            by_cases c6 : x5_1 < (l1.length : Int)
            · rw [if_pos c6] at H
              have c6b0 : decide (x5_1 < (l1.length : Int)) = true := decide_eq_true c6
              clear c6
              by_cases c7 : (rdOf ByteArray.empty l0 x5_1).toList = (rdOf ByteArray.empty l1 x5_1).toList
              · rw [if_pos c7] at H
                have c7b0 : ((rdOf ByteArray.empty l0 x5_1).toList == (rdOf ByteArray.empty l1 x5_1).toList) = true := beq_iff_eq.mpr c7
                have c7b1 : ((rdOf ByteArray.empty l0 x5_1).toList != (rdOf ByteArray.empty l1 x5_1).toList) = false := bne_eq_false_iff_eq.mpr c7
                clear c7
                have H' := Aside0.mk H
                clear H
                have p101 : 0 ≤ (x5_1 : Int) := of_decide_eq_true (by first | (with_reducible assumption) | assumption)
                have q101 : x5_1 < (l0.length : Int) := of_decide_eq_true (by first | (with_reducible assumption) | assumption)
                obtain ⟨ad101, e101, hx101_0⟩ := Kd.at_string HR0.out x5_1 p101 q101
                cases e101
                replace p101 := eq_true p101
                replace q101 := eq_true q101
                have p102 : 0 ≤ (x5_1 : Int) := of_decide_eq_true (by first | (with_reducible assumption) | assumption)
                have q102 : x5_1 < (l1.length : Int) := of_decide_eq_true (by first | (with_reducible assumption) | assumption)
                obtain ⟨ad102, e102, hx102_0⟩ := Kd.at_string HR1.out x5_1 p102 q102
                cases e102
                replace p102 := eq_true p102
                replace q102 := eq_true q102
                go_wp2
                repeat (go_quiet (fail); try go_wp2)
                go_roundg k1
                case measure => have := HK1.out; omega
                case rel => exact ⟨(wrap64 (x5_1 + 1)), (by first | rfl | (simp; done) | (simp [*]; done)), H', ⟨by have := HK1.out; omega⟩, by repeat (first | exact Drawn0.refl _ | apply Drawn0.step)⟩
              · rw [if_neg c7] at H
                have c7b0 : ((rdOf ByteArray.empty l0 x5_1).toList == (rdOf ByteArray.empty l1 x5_1).toList) = false := beq_eq_false_iff_ne.mpr c7
                have c7b1 : ((rdOf ByteArray.empty l0 x5_1).toList != (rdOf ByteArray.empty l1 x5_1).toList) = true := bne_iff_ne.mpr c7
                obtain rfl := Option.some.inj H
                have p101 : 0 ≤ (x5_1 : Int) := of_decide_eq_true (by first | (with_reducible assumption) | assumption)
                have q101 : x5_1 < (l0.length : Int) := of_decide_eq_true (by first | (with_reducible assumption) | assumption)
                obtain ⟨ad101, e101, hx101_0⟩ := Kd.at_string HR0.out x5_1 p101 q101
                cases e101
                replace p101 := eq_true p101
                replace q101 := eq_true q101
                have p102 : 0 ≤ (x5_1 : Int) := of_decide_eq_true (by first | (with_reducible assumption) | assumption)
                have q102 : x5_1 < (l1.length : Int) := of_decide_eq_true (by first | (with_reducible assumption) | assumption)
                obtain ⟨ad102, e102, hx102_0⟩ := Kd.at_string HR1.out x5_1 p102 q102
                cases e102
                replace p102 := eq_true p102
                replace q102 := eq_true q102
                go_wp2
                repeat (go_quiet (fail); try go_wp2)
                go_ret
                exact ⟨by first | rfl | (simp; done) | (simp [*]; done), by repeat (first | exact Drawn0.refl _ | apply Drawn0.step)⟩
            · rw [if_neg c6] at H
              exact absurd H (by simp)
          · rw [if_neg c5] at H
            exact absurd H (by simp)
        · rw [if_neg c4] at H
          have c4b0 : decide (x5_1 < (l0.length : Int)) = false := decide_eq_false c4
          clear c4
          obtain rfl := Option.some.inj H
          go_wp2
          repeat (go_quiet (fail); try go_wp2)
          go_ret
          exact ⟨by first | rfl | (simp; done) | (simp [*]; done), by repeat (first | exact Drawn0.refl _ | apply Drawn0.step)⟩
  · rw [if_neg c3] at H
    have c3b0 : ((l0.length : Int) == (l1.length : Int)) = false := beq_eq_false_iff_ne.mpr c3
    have c3b1 : ((l0.length : Int) != (l1.length : Int)) = true := bne_iff_ne.mpr c3
    have c3b2 : (l0.length == l1.length) = false := by first | simpa using c3 | (simp at c3 ⊢; omega)
    obtain rfl := Option.some.inj H
    go_enter Tryd.func8, Tryd.ntmps8
    go_wp2
    repeat (go_quiet (fail); try go_wp2)
    go_ret
    exact ⟨by first | rfl | (simp; done) | (simp [*]; done), by repeat (first | exact Drawn0.refl _ | apply Drawn0.step)⟩

-- GIVEN: impl_TwSplitCamelCase

/-! ### laws_FnCamelDigits: function 4 -/
mutual
def laws_FnCamelDigits.j0 : Nat → List Int → Bool → Option (Bool)
  | 0, _, _ => none
  | k + 1, x0, x17 => if x17 = true then (some true) else (laws_FnCamelDigits.l0 k x0 (⟨#[]⟩ : ByteArray) ([] : List ByteArray) 0)
def laws_FnCamelDigits.l0 : Nat → List Int → ByteArray → List ByteArray → Int → Option (Bool)
  | 0, _, _, _, _ => none
  | k + 1, x0, x3, x4, x5 => if x5 < (x0.length : Int) then (if 0 ≤ x5 then (if 0 ≤ ((1 + (Int.tmod (rd x0 x5) 8)) % 256) then (if ((1 + (Int.tmod (rd x0 x5) 8)) % 256) ≤ 8 then (if (Int.tmod x5 2) = 1 then (if x4.length < 8796093022208 then (if x3.size + ((⟨#[49, 50, 51, 52, 53, 54, 55, 56]⟩ : ByteArray).extract 0 (((1 + (Int.tmod (rd x0 x5) 8)) % 256) : Int).toNat).size ≤ 9223372036854775807 then (laws_FnCamelDigits.l0 k x0 (x3 ++ ((⟨#[49, 50, 51, 52, 53, 54, 55, 56]⟩ : ByteArray).extract 0 (((1 + (Int.tmod (rd x0 x5) 8)) % 256) : Int).toNat)) (x4 ++ [(⟨#[49, 50, 51, 52, 53, 54, 55, 56]⟩ : ByteArray).extract 0 (((1 + (Int.tmod (rd x0 x5) 8)) % 256) : Int).toNat]) (wrap64 (x5 + 1))) else (none)) else (none)) else (if x4.length < 8796093022208 then (if x3.size + ((⟨#[97, 98, 99, 100, 101, 102, 103, 104]⟩ : ByteArray).extract 0 (((1 + (Int.tmod (rd x0 x5) 8)) % 256) : Int).toNat).size ≤ 9223372036854775807 then (laws_FnCamelDigits.l0 k x0 (x3 ++ ((⟨#[97, 98, 99, 100, 101, 102, 103, 104]⟩ : ByteArray).extract 0 (((1 + (Int.tmod (rd x0 x5) 8)) % 256) : Int).toNat)) (x4 ++ [(⟨#[97, 98, 99, 100, 101, 102, 103, 104]⟩ : ByteArray).extract 0 (((1 + (Int.tmod (rd x0 x5) 8)) % 256) : Int).toNat]) (wrap64 (x5 + 1))) else (none)) else (none))) else (none)) else (none)) else (none)) else ((impl_TwSplitCamelCase.f x3).bind fun t111 => ((spec_TwTexts.f k t111 x4).bind fun t114 => (some t114)))
end
def laws_FnCamelDigits.f (k : Nat) (l0 : List Int) : Option (Bool) := if (l0.length : Int) > 2147483647 then (some true) else (if (l0.length : Int) > 40 then (laws_FnCamelDigits.j0 k l0 true) else (laws_FnCamelDigits.j0 k l0 ((l0.length : Int) == 0)))
theorem laws_FnCamelDigits.mono_l : ∀ k, (∀ y0 y1, LeO (laws_FnCamelDigits.j0 k y0 y1) (laws_FnCamelDigits.j0 (k + 1) y0 y1)) ∧ (∀ y0 y1 y2 y3, LeO (laws_FnCamelDigits.l0 k y0 y1 y2 y3) (laws_FnCamelDigits.l0 (k + 1) y0 y1 y2 y3))
  | 0 => ⟨fun _ _ r h => by simp [laws_FnCamelDigits.j0] at h, fun _ _ _ _ r h => by simp [laws_FnCamelDigits.l0] at h⟩
  | k + 1 => by
    obtain ⟨ih0, ih1⟩ := laws_FnCamelDigits.mono_l k
    refine ⟨?_, ?_⟩
    · intro y0 y1
      unfold laws_FnCamelDigits.j0
      repeat' first
      | (with_reducible exact ih0 _ _)
      | (with_reducible exact ih1 _ _ _ _)
      | (with_reducible exact spec_TwTexts.mono _ _ _)
      | (with_reducible exact LeO.refl _)
      | (with_reducible exact LeO.none _)
      | (with_reducible refine LeO.ite ?_ ?_)
      | (with_reducible refine LeO.bind ?_ (fun _ => ?_))
      | exact ih0 _ _
      | exact ih1 _ _ _ _
      | exact spec_TwTexts.mono _ _ _
      | exact LeO.none _
      | refine LeO.ite ?_ ?_
      | refine LeO.bind ?_ (fun _ => ?_)
    · intro y0 y1 y2 y3
      unfold laws_FnCamelDigits.l0
      repeat' first
      | (with_reducible exact ih0 _ _)
      | (with_reducible exact ih1 _ _ _ _)
      | (with_reducible exact spec_TwTexts.mono _ _ _)
      | (with_reducible exact LeO.refl _)
      | (with_reducible exact LeO.none _)
      | (with_reducible refine LeO.ite ?_ ?_)
      | (with_reducible refine LeO.bind ?_ (fun _ => ?_))
      | exact ih0 _ _
      | exact ih1 _ _ _ _
      | exact spec_TwTexts.mono _ _ _
      | exact LeO.none _
      | refine LeO.ite ?_ ?_
      | refine LeO.bind ?_ (fun _ => ?_)
theorem laws_FnCamelDigits.mono : ∀ a0 k, LeO (laws_FnCamelDigits.f k a0) (laws_FnCamelDigits.f (k + 1) a0) := by
  intro a0 k
  obtain ⟨ih0, ih1⟩ := laws_FnCamelDigits.mono_l k
  unfold laws_FnCamelDigits.f
  repeat' first
      | (with_reducible exact ih0 _ _)
      | (with_reducible exact ih1 _ _ _ _)
      | (with_reducible exact spec_TwTexts.mono _ _ _)
      | (with_reducible exact LeO.refl _)
      | (with_reducible exact LeO.none _)
      | (with_reducible refine LeO.ite ?_ ?_)
      | (with_reducible refine LeO.bind ?_ (fun _ => ?_))
      | exact ih0 _ _
      | exact ih1 _ _ _ _
      | exact spec_TwTexts.mono _ _ _
      | exact LeO.none _
      | refine LeO.ite ?_ ?_
      | refine LeO.bind ?_ (fun _ => ?_)
set_option maxHeartbeats 8000000 in
set_option maxRecDepth 100000 in
theorem laws_FnCamelDigits.calls (k : Nat) (A0 : Option Addr) (c0 : Nat) (l0 : List Int) (r : Bool) (w : World) (hT : CamS.T w) (hr0 : Kd.C (Kd.int .u8) w A0 l0.length l0) (hc0 : l0.length ≤ c0) (h : laws_FnCamelDigits.f k l0 = some r) :
    Calls Tryd.prog 4 #[.slice A0 l0.length c0] w fun e w' => e = .returned (.bool r) ∧ Below w.heap.size w w' := by
  have HTW := Aside0.mk hT
  clear hT
  have HR0 := Aside0.mk hr0
  have HC0 := Aside0.mk hc0
  clear hr0 hc0
  have HB := Aside0.mk (Below.refl w.heap.size w)
  have H : (if (l0.length : Int) > 2147483647 then (some true) else (if (l0.length : Int) > 40 then (laws_FnCamelDigits.j0 k l0 true) else (laws_FnCamelDigits.j0 k l0 ((l0.length : Int) == 0)))) = some r := h
  clear h
  by_cases c2 : (l0.length : Int) > 2147483647
  · rw [if_pos c2] at H
    have c2b0 : decide (2147483647 < (l0.length : Int)) = true := decide_eq_true c2
    have c2b1 : decide (2147483647 < l0.length) = true := decide_eq_true (by omega)
    clear c2
    obtain rfl := Option.some.inj H
    go_enter Tryd.func4, Tryd.ntmps4
    go_wp2
    go_ret
    exact ⟨by first | rfl | (simp [errW_none, errW_some] <;> rfl) | (simp [*, errW_none, errW_some] <;> rfl), by repeat (first | (with_reducible first | exact HB.out | apply below_alloc | apply pw_below_drewN | apply below_drew1) | exact HB.out)⟩
  · rw [if_neg c2] at H
    have c2b0 : decide (2147483647 < (l0.length : Int)) = false := decide_eq_false c2
    have c2b1 : decide (2147483647 < l0.length) = false := decide_eq_false (by omega)
    clear c2
    have HC3 := Aside0.mk H
    clear H
    go_enter Tryd.func4, Tryd.ntmps4
    go_upto_region 3 with (fail)
    go_cut [17] (fun v17 wc => ∃ (kq : Nat) (x17_2 : Bool), v17 = .bool x17_2 ∧ Aside0 (laws_FnCamelDigits.j0 kq l0 x17_2 = some r) ∧ Aside0 (kq ≤ k) ∧ Aside0 (Below w.heap.size w wc))
    case first =>
      have H := HC3.out
      clear HC3
      by_cases c4 : (l0.length : Int) > 40
      · rw [if_pos c4] at H
        have c4b0 : decide (40 < (l0.length : Int)) = true := decide_eq_true c4
        have c4b1 : decide (40 < l0.length) = true := decide_eq_true (by omega)
        clear c4
        (first | rw [c4b0] | (simp only [i64_w, i32_w]; rw [c4b0]) | skip)
        have H' := Aside0.mk H
        clear H
        go_wp2
        go_meet
        case rel => exact ⟨_, (true), (by first | rfl | (simp; done) | (simp [*]; done)), H', ⟨by first | omega | exact Nat.le_refl _⟩, ⟨by repeat (first | (with_reducible first | exact HB.out | apply below_alloc | apply pw_below_drewN | apply below_drew1) | exact HB.out)⟩⟩
      · rw [if_neg c4] at H
        have c4b0 : decide (40 < (l0.length : Int)) = false := decide_eq_false c4
        have c4b1 : decide (40 < l0.length) = false := decide_eq_false (by omega)
        clear c4
        (first | rw [c4b0] | (simp only [i64_w, i32_w]; rw [c4b0]) | skip)
        have H' := Aside0.mk H
        clear H
        go_wp2
        go_meet
        case rel => exact ⟨_, (((l0.length : Int) == 0)), (by first | rfl | (simp; done) | (simp [*]; done)), H', ⟨by first | omega | exact Nat.le_refl _⟩, ⟨by repeat (first | (with_reducible first | exact HB.out | apply below_alloc | apply pw_below_drewN | apply below_drew1) | exact HB.out)⟩⟩
    case rest =>
      clear HC3
      try clear c2
      try clear c2b0
      try clear c2b1
      try clear p2
      try clear c4
      try clear c4b0
      try clear c4b1
      obtain ⟨kq, x17_2, rfl, HA, HJ2, HB⟩ := hcut
      cases kq with
      | zero => exact absurd HA.out (by simp [laws_FnCamelDigits.j0])
      | succ kj2 =>
        have H := HA.out
        clear HA
        simp only [laws_FnCamelDigits.j0] at H
        by_cases c5 : x17_2 = true
        · subst c5
          have H1 : (some true) = some r := by rw [if_pos rfl] at H; exact H
          clear H
          have H := H1
          clear H1
          obtain rfl := Option.some.inj H
          go_wp2
          go_ret
          exact ⟨by first | rfl | (simp [errW_none, errW_some] <;> rfl) | (simp [*, errW_none, errW_some] <;> rfl), by repeat (first | (with_reducible first | exact HB.out | apply below_alloc | apply pw_below_drewN | apply below_drew1) | exact HB.out)⟩
        · replace c5 := Bool.eq_false_iff.mpr c5
          subst c5
          have H1 : (laws_FnCamelDigits.l0 kj2 l0 (⟨#[]⟩ : ByteArray) ([] : List ByteArray) 0) = some r := by rw [if_neg (show ¬ (false = true) by decide)] at H; exact H
          clear H
          have H := H1
          clear H1
          have H' := Aside0.mk H
          clear H
          go_wp2
          go_loopg [3, 4, 5] kj2 (fun kq v3 v4 v5 w' => ∃ (x3_2 : ByteArray) (x4_2 : List ByteArray) (x5_2 : Int), v3 = .string x3_2 ∧ v5 = .int .i64 x5_2 ∧ Aside0 (laws_FnCamelDigits.l0 kq l0 x3_2 x4_2 x5_2 = some r) ∧ Aside0 (kq ≤ kj2) ∧ Aside0 (Kd.R Kd.string 9 w' w.heap.size (fun _ => True) v4 x4_2) ∧ Aside0 (Below w.heap.size w w'))
          case atStart => exact ⟨((⟨#[]⟩ : ByteArray)), (([] : List ByteArray)), (0), (by first | rfl | (simp; done) | (simp [*]; done)), (by first | rfl | (simp; done) | (simp [*]; done)), H', ⟨Nat.le_refl _⟩, ⟨by first | exact Kd.R_nil _ _ _ _ _ | exact Kd.N_nil _ _ _ _ _ | exact Kd.V_nil _ _ _ _ _ | exact Kd.Q_nil _ _ _ _ _ | exact Kd.S_nil _ _ _ _ _⟩, ⟨by repeat (first | (with_reducible first | exact HB.out | apply below_alloc | apply pw_below_drewN | apply below_drew1) | exact HB.out)⟩⟩
          case round =>
            clear H'
            try clear c2
            try clear c2b0
            try clear c2b1
            try clear p2
            try clear c4
            try clear c4b0
            try clear c4b1
            try clear c5
            try clear p2
            obtain ⟨x3_2, x4_2, x5_2, rfl, rfl, HA, HK2, HO_4, HB⟩ := hrel
            cases gk with
            | zero => exact absurd HA.out (by simp [laws_FnCamelDigits.l0])
            | succ k2 =>
              have H := HA.out
              clear HA
              simp only [laws_FnCamelDigits.l0] at H
              by_cases c6 : x5_2 < (l0.length : Int)
              · rw [if_pos c6] at H
                have c6b0 : decide (x5_2 < (l0.length : Int)) = true := decide_eq_true c6
                clear c6
                by_cases c7 : 0 ≤ x5_2
                · rw [if_pos c7] at H
                  have c7b0 : decide (0 ≤ x5_2) = true := decide_eq_true c7
                  clear c7
                  obtain ⟨ji8, hji8⟩ : ∃ j_ : Int, ((1 + (Int.tmod (rd l0 x5_2) 8)) % 256) = j_ := ⟨_, rfl⟩
                  replace H : (if 0 ≤ (ji8) then (if (ji8) ≤ 8 then (if (Int.tmod x5_2 2) = 1 then (if x4_2.length < 8796093022208 then (if x3_2.size + ((⟨#[49, 50, 51, 52, 53, 54, 55, 56]⟩ : ByteArray).extract 0 ((ji8) : Int).toNat).size ≤ 9223372036854775807 then (laws_FnCamelDigits.l0 k2 l0 (x3_2 ++ ((⟨#[49, 50, 51, 52, 53, 54, 55, 56]⟩ : ByteArray).extract 0 ((ji8) : Int).toNat)) (x4_2 ++ [(⟨#[49, 50, 51, 52, 53, 54, 55, 56]⟩ : ByteArray).extract 0 ((ji8) : Int).toNat]) (wrap64 (x5_2 + 1))) else (none)) else (none)) else (if x4_2.length < 8796093022208 then (if x3_2.size + ((⟨#[97, 98, 99, 100, 101, 102, 103, 104]⟩ : ByteArray).extract 0 ((ji8) : Int).toNat).size ≤ 9223372036854775807 then (laws_FnCamelDigits.l0 k2 l0 (x3_2 ++ ((⟨#[97, 98, 99, 100, 101, 102, 103, 104]⟩ : ByteArray).extract 0 ((ji8) : Int).toNat)) (x4_2 ++ [(⟨#[97, 98, 99, 100, 101, 102, 103, 104]⟩ : ByteArray).extract 0 ((ji8) : Int).toNat]) (wrap64 (x5_2 + 1))) else (none)) else (none))) else (none)) else (none)) = some r := by first | (rw [hji8] at H; exact H) | (simp only [hji8] at H ⊢; exact H)
                  by_cases c9 : 0 ≤ (ji8)
                  · rw [if_pos c9] at H
                    have c9b0 := eq_true c9
                    have c9b1 : decide (0 ≤ (ji8)) = true := decide_eq_true c9
                    clear c9
                    by_cases c10 : (ji8) ≤ 8
                    · rw [if_pos c10] at H
                      have c10b0 := eq_true c10
                      have c10b1 : decide ((ji8) ≤ 8) = true := decide_eq_true c10
                      clear c10
                      by_cases c11 : (Int.tmod x5_2 2) = 1
                      · rw [if_pos c11] at H
                        have c11b0 : ((Int.tmod x5_2 2) == 1) = true := beq_iff_eq.mpr c11
                        have c11b1 : ((Int.tmod x5_2 2) != 1) = false := bne_eq_false_iff_eq.mpr c11
                        clear c11
                        have c12b0 := eq_true (of_decide_eq_true (by first | (with_reducible assumption) | assumption) : 0 ≤ (ji8))
                        have c13b0 := eq_true (of_decide_eq_true (by first | (with_reducible assumption) | assumption) : (ji8) ≤ 8)
                        by_cases c14 : x4_2.length < 8796093022208
                        · rw [if_pos c14] at H
                          have LMc14 := Aside0.mk c14
                          clear c14
                          obtain ⟨y105, hy105⟩ : ∃ y_ : List ByteArray, y_ = (x4_2 ++ [(⟨#[49, 50, 51, 52, 53, 54, 55, 56]⟩ : ByteArray).extract 0 ((ji8) : Int).toNat]) := ⟨_, rfl⟩
                          replace H : (if x3_2.size + ((⟨#[49, 50, 51, 52, 53, 54, 55, 56]⟩ : ByteArray).extract 0 ((ji8) : Int).toNat).size ≤ 9223372036854775807 then (laws_FnCamelDigits.l0 k2 l0 (x3_2 ++ ((⟨#[49, 50, 51, 52, 53, 54, 55, 56]⟩ : ByteArray).extract 0 ((ji8) : Int).toNat)) y105 (wrap64 (x5_2 + 1))) else (none)) = some r := by first | (rw [hy105]; with_reducible exact H) | (have H2_ := (Option.bind_some _ _).symm.trans H; rw [hy105]; with_reducible exact H2_) | (have H2_ := (Option.bind_some _ _).symm.trans H; with_reducible exact H2_) | with_reducible exact H | (rw [hy105]; exact H) | exact H
                          have Ny105 := Aside0.mk hy105
                          clear hy105
                          by_cases c15 : x3_2.size + ((⟨#[49, 50, 51, 52, 53, 54, 55, 56]⟩ : ByteArray).extract 0 ((ji8) : Int).toNat).size ≤ 9223372036854775807
                          · rw [if_pos c15] at H
                            have c15b0 := eq_true c15
                            have c15b1 : decide (x3_2.size + ((⟨#[49, 50, 51, 52, 53, 54, 55, 56]⟩ : ByteArray).extract 0 ((ji8) : Int).toNat).size ≤ 9223372036854775807) = true := decide_eq_true c15
                            try have c15b2 : (9223372036854775807 < x3_2.size + ((⟨#[49, 50, 51, 52, 53, 54, 55, 56]⟩ : ByteArray).extract 0 ((ji8) : Int).toNat).size) = False := eq_false (Nat.not_lt.2 c15)
                            have H' := Aside0.mk H
                            clear H
                            have p103 : 0 ≤ (x5_2 : Int) := of_decide_eq_true (by first | (with_reducible assumption) | assumption)
                            have q103 : x5_2 < (l0.length : Int) := of_decide_eq_true (by first | (with_reducible assumption) | assumption)
                            obtain ⟨ad103, e103, hx103_0⟩ := Kd.at_int HR0.out x5_2 p103 q103
                            cases e103
                            replace hx103_0 := (HB.out.cell (World.block_lt_of_cell? w _ hx103_0)).trans hx103_0
                            replace p103 := eq_true p103
                            replace q103 := eq_true q103
                            have p104 : 0 ≤ (x5_2 : Int) := of_decide_eq_true (by first | (with_reducible assumption) | assumption)
                            have q104 : x5_2 < (l0.length : Int) := of_decide_eq_true (by first | (with_reducible assumption) | assumption)
                            obtain ⟨ad104, e104, hx104_0⟩ := Kd.at_int HR0.out x5_2 p104 q104
                            obtain rfl : ad103 = ad104 := (by injection e104)
                            replace hx104_0 := (HB.out.cell (World.block_lt_of_cell? w _ hx104_0)).trans hx104_0
                            replace p104 := eq_true p104
                            replace q104 := eq_true q104
                            go_wp2_with (first | ((with_reducible refine gate_builtin (b := .append) (xs := #[.tmp 41, .tmp 43]) rfl ?_); (try (refine gate_guard (by rfl) ?_; dsimp only)); at_builtin; refine Kd.R_append Kd.string (w0 := w) w.heap.size rfl (.tmp 41) (.tmp 43) 31 9 (.string ⟨#[]⟩) 16 rfl Tryd.underlying31 info9 rfl (by decide) (by omega) u4 x4_2 ((⟨#[49, 50, 51, 52, 53, 54, 55, 56]⟩ : ByteArray).extract 0 ((ji8) : Int).toNat) [.string ((⟨#[49, 50, 51, 52, 53, 54, 55, 56]⟩ : ByteArray).extract 0 ((ji8) : Int).toNat)] (fun _ => True) (fun _ => False) rfl rfl ?aP (fun _ hk => hk.elim) ?aF ?aO ?aB ?aS ?aL ?_; (case aP => exact rfl); (case aB => exact (by repeat (first | (with_reducible first | exact HB.out | apply below_alloc | apply pw_below_drewN | apply below_drew1) | exact HB.out))); (case aF => exact (fun _ _ => trivial)); (case aO => exact (by (with_reducible repeat (first | apply Kd.R_alloc | apply Kd.R_drewN | apply Kd.R_drew)); exact HO_4.out)); (case aS => exact (below_size (by repeat (first | (with_reducible first | exact HB.out | apply below_alloc | apply pw_below_drewN | apply below_drew1) | exact HB.out)))); (case aL => have := LMc14.out; omega); intro v106 w16 ho hb hg hat; rw [← Ny105.out] at ho; have n0_ := Aside0.mk (hb); have n1_ := Aside0.mk (ho); clear HB; clear HO_4; have HB := n0_; have HO107 := n1_; clear n0_ n1_; clear ho hb hg hat))
                            go_roundg k2
                            case measure => have := HJ2.out; have := HK2.out; omega
                            case rel => exact ⟨(x3_2 ++ ((⟨#[49, 50, 51, 52, 53, 54, 55, 56]⟩ : ByteArray).extract 0 ((ji8) : Int).toNat)), (y105), (wrap64 (x5_2 + 1)), (by first | rfl | (simp; done) | (simp only [← hji8] <;> (first | rfl | simp)) | (simp [*]; done)), (by first | rfl | (simp; done) | (simp [*]; done)), H', ⟨by have := HJ2.out; have := HK2.out; omega⟩, ⟨by (with_reducible repeat (first | apply Kd.R_alloc | apply Kd.R_drewN | apply Kd.R_drew)); exact HO107.out⟩, ⟨by repeat (first | (with_reducible first | exact HB.out | apply below_alloc | apply pw_below_drewN | apply below_drew1) | exact HB.out)⟩⟩
                          · rw [if_neg c15] at H
                            exact absurd H (by simp)
                        · rw [if_neg c14] at H
                          exact absurd H (by simp)
                      · rw [if_neg c11] at H
                        have c11b0 : ((Int.tmod x5_2 2) == 1) = false := beq_eq_false_iff_ne.mpr c11
                        have c11b1 : ((Int.tmod x5_2 2) != 1) = true := bne_iff_ne.mpr c11
                        by_cases c17 : x4_2.length < 8796093022208
                        · rw [if_pos c17] at H
                          have LMc17 := Aside0.mk c17
                          clear c17
                          obtain ⟨y108, hy108⟩ : ∃ y_ : List ByteArray, y_ = (x4_2 ++ [(⟨#[97, 98, 99, 100, 101, 102, 103, 104]⟩ : ByteArray).extract 0 ((ji8) : Int).toNat]) := ⟨_, rfl⟩
                          replace H : (if x3_2.size + ((⟨#[97, 98, 99, 100, 101, 102, 103, 104]⟩ : ByteArray).extract 0 ((ji8) : Int).toNat).size ≤ 9223372036854775807 then (laws_FnCamelDigits.l0 k2 l0 (x3_2 ++ ((⟨#[97, 98, 99, 100, 101, 102, 103, 104]⟩ : ByteArray).extract 0 ((ji8) : Int).toNat)) y108 (wrap64 (x5_2 + 1))) else (none)) = some r := by first | (rw [hy108]; with_reducible exact H) | (have H2_ := (Option.bind_some _ _).symm.trans H; rw [hy108]; with_reducible exact H2_) | (have H2_ := (Option.bind_some _ _).symm.trans H; with_reducible exact H2_) | with_reducible exact H | (rw [hy108]; exact H) | exact H
                          have Ny108 := Aside0.mk hy108
                          clear hy108
                          by_cases c18 : x3_2.size + ((⟨#[97, 98, 99, 100, 101, 102, 103, 104]⟩ : ByteArray).extract 0 ((ji8) : Int).toNat).size ≤ 9223372036854775807
                          · rw [if_pos c18] at H
                            have c18b0 := eq_true c18
                            have c18b1 : decide (x3_2.size + ((⟨#[97, 98, 99, 100, 101, 102, 103, 104]⟩ : ByteArray).extract 0 ((ji8) : Int).toNat).size ≤ 9223372036854775807) = true := decide_eq_true c18
                            try have c18b2 : (9223372036854775807 < x3_2.size + ((⟨#[97, 98, 99, 100, 101, 102, 103, 104]⟩ : ByteArray).extract 0 ((ji8) : Int).toNat).size) = False := eq_false (Nat.not_lt.2 c18)
                            have H' := Aside0.mk H
                            clear H
                            have p103 : 0 ≤ (x5_2 : Int) := of_decide_eq_true (by first | (with_reducible assumption) | assumption)
                            have q103 : x5_2 < (l0.length : Int) := of_decide_eq_true (by first | (with_reducible assumption) | assumption)
                            obtain ⟨ad103, e103, hx103_0⟩ := Kd.at_int HR0.out x5_2 p103 q103
                            cases e103
                            replace hx103_0 := (HB.out.cell (World.block_lt_of_cell? w _ hx103_0)).trans hx103_0
                            replace p103 := eq_true p103
                            replace q103 := eq_true q103
                            go_wp2_with (first | ((with_reducible refine gate_builtin (b := .append) (xs := #[.tmp 41, .tmp 43]) rfl ?_); (try (refine gate_guard (by rfl) ?_; dsimp only)); at_builtin; refine Kd.R_append Kd.string (w0 := w) w.heap.size rfl (.tmp 41) (.tmp 43) 31 9 (.string ⟨#[]⟩) 16 rfl Tryd.underlying31 info9 rfl (by decide) (by omega) u4 x4_2 ((⟨#[97, 98, 99, 100, 101, 102, 103, 104]⟩ : ByteArray).extract 0 ((ji8) : Int).toNat) [.string ((⟨#[97, 98, 99, 100, 101, 102, 103, 104]⟩ : ByteArray).extract 0 ((ji8) : Int).toNat)] (fun _ => True) (fun _ => False) rfl rfl ?aP (fun _ hk => hk.elim) ?aF ?aO ?aB ?aS ?aL ?_; (case aP => exact rfl); (case aB => exact (by repeat (first | (with_reducible first | exact HB.out | apply below_alloc | apply pw_below_drewN | apply below_drew1) | exact HB.out))); (case aF => exact (fun _ _ => trivial)); (case aO => exact (by (with_reducible repeat (first | apply Kd.R_alloc | apply Kd.R_drewN | apply Kd.R_drew)); exact HO_4.out)); (case aS => exact (below_size (by repeat (first | (with_reducible first | exact HB.out | apply below_alloc | apply pw_below_drewN | apply below_drew1) | exact HB.out)))); (case aL => have := LMc17.out; omega); intro v109 w19 ho hb hg hat; rw [← Ny108.out] at ho; have n0_ := Aside0.mk (hb); have n1_ := Aside0.mk (ho); clear HB; clear HO_4; have HB := n0_; have HO110 := n1_; clear n0_ n1_; clear ho hb hg hat))
                            go_roundg k2
                            case measure => have := HJ2.out; have := HK2.out; omega
                            case rel => exact ⟨(x3_2 ++ ((⟨#[97, 98, 99, 100, 101, 102, 103, 104]⟩ : ByteArray).extract 0 ((ji8) : Int).toNat)), (y108), (wrap64 (x5_2 + 1)), (by first | rfl | (simp; done) | (simp only [← hji8] <;> (first | rfl | simp)) | (simp [*]; done)), (by first | rfl | (simp; done) | (simp [*]; done)), H', ⟨by have := HJ2.out; have := HK2.out; omega⟩, ⟨by (with_reducible repeat (first | apply Kd.R_alloc | apply Kd.R_drewN | apply Kd.R_drew)); exact HO110.out⟩, ⟨by repeat (first | (with_reducible first | exact HB.out | apply below_alloc | apply pw_below_drewN | apply below_drew1) | exact HB.out)⟩⟩
                          · rw [if_neg c18] at H
                            exact absurd H (by simp)
                        · rw [if_neg c17] at H
                          exact absurd H (by simp)
                    · rw [if_neg c10] at H
                      exact absurd H (by simp)
                  · rw [if_neg c9] at H
                    exact absurd H (by simp)
                · rw [if_neg c7] at H
                  exact absurd H (by simp)
              · rw [if_neg c6] at H
                have c6b0 : decide (x5_2 < (l0.length : Int)) = false := decide_eq_false c6
                clear c6
                replace H := Option.bind_eq_some_iff.mp H
                obtain ⟨t111, A200, H⟩ := H
                replace H : ((spec_TwTexts.f k2 t111 x4_2).bind fun t114 => (some t114)) = some r := H
                have A20 := Aside0.mk A200
                clear A200
                replace H := Option.bind_eq_some_iff.mp H
                obtain ⟨t114, A210, H⟩ := H
                replace H : (some t114) = some r := H
                have A21 := Aside0.mk A210
                clear A210
                obtain rfl := Option.some.inj H
                go_wp2_with (first | ((with_reducible refine gate_callee (f := 9) rfl ?_); refine goesL_ (some 49) rfl rfl Tryd.func9 (by kernel_rfl) rfl #[.string x3_2] rfl (by (try simp only [List.map_toArray, List.map_cons, List.map_nil]); first | done | rfl | (simp only [List.length_drop, List.length_take]; rfl)) ?_; (with_reducible refine (impl_TwSplitCamelCase.calls x3_2 t111 _ (tab_step HTW.out (by repeat (first | (with_reducible first | exact HB.out | apply below_alloc | apply pw_below_drewN | apply below_drew1) | exact HB.out))) A20.out).mono ?_); rintro e w22 ⟨v112, rfl, ho0, hb⟩; refine ⟨_, rfl, ?_⟩; have n0_ := Aside0.mk (Kd.R_elder' (by (with_reducible repeat (first | apply Kd.R_alloc | apply Kd.R_drewN | apply Kd.R_drew)); exact HO_4.out) (Kd.R_base ho0) hb); have n1_ := Aside0.mk (Kd.R_lower (Kd.R_new' ho0 (Kd.R_lt (by (with_reducible repeat (first | apply Kd.R_alloc | apply Kd.R_drewN | apply Kd.R_drew)); exact HO_4.out))) (below_size (by repeat (first | (with_reducible first | exact HB.out | apply below_alloc | apply pw_below_drewN | apply below_drew1) | exact HB.out)))); have n2_ := Aside0.mk (below_step (by repeat (first | (with_reducible first | exact HB.out | apply below_alloc | apply pw_below_drewN | apply below_drew1) | exact HB.out)) hb); clear HO_4; clear HB; have HO_4 := n0_; have HO113 := n1_; have HB := n2_; clear n0_ n1_ n2_; (try clear hb); (try clear hb2); (try clear hk); (try clear hi); (try clear ho0); obtain ⟨Ao23, co23, eo23⟩ := Kd.R_slice HO113.out; subst eo23; obtain ⟨Ao24, co24, eo24⟩ := Kd.R_slice HO_4.out; subst eo24) | ((with_reducible refine gate_callee (f := 8) rfl ?_); refine goesL_ (some 51) rfl rfl Tryd.func8 (by kernel_rfl) rfl #[.slice Ao23 t111.length co23, .slice Ao24 x4_2.length co24] rfl (by (try simp only [List.map_toArray, List.map_cons, List.map_nil]); first | done | rfl | (simp only [List.length_drop, List.length_take]; rfl)) ?_; (with_reducible refine (spec_TwTexts.calls k2 _ _ t111 _ _ x4_2 t114 _ ?side1 ?side2 ?side3 ?side4 A21.out).mono ?_); (case side1 => repeat (first | exact (Kd.R_reads' HO113.out).2.2 | (with_reducible refine Kd.C_alloc ?_ _) | (with_reducible refine Kd.C_drewN ?_ _) | (with_reducible refine Kd.C_drew ?_))); (case side2 => exact (Kd.R_reads' HO113.out).2.1); (case side3 => repeat (first | exact (Kd.R_reads' HO_4.out).2.2 | (with_reducible refine Kd.C_alloc ?_ _) | (with_reducible refine Kd.C_drewN ?_ _) | (with_reducible refine Kd.C_drew ?_))); (case side4 => exact (Kd.R_reads' HO_4.out).2.1); rintro e w' ⟨rfl, ⟨nd, rfl⟩⟩; refine ⟨_, rfl, ?_⟩))
                go_ret
                exact ⟨by first | rfl | (simp [errW_none, errW_some] <;> rfl) | (simp [*, errW_none, errW_some] <;> rfl), by repeat (first | (with_reducible first | exact HB.out | apply below_alloc | apply pw_below_drewN | apply below_drew1) | exact HB.out)⟩

end Go.Proofs.YtjioibigijflpaaDoor.GFnCamelDigits
