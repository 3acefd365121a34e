-- printed by a program of this session (gprint.py) out of the translation; Lean checks it
import Derived.Test.YtnjehpjkanfnnaaDoorGFnTextFormatTitlex0
import Derived.Test.YtnjehpjkanfnnaaDoorGivenTt
namespace Go.Proofs.YtnjehpjkanfnnaaDoor.GFnTextFormatTitle
open Go.RowKit Go.Proofs.YtnjehpjkanfnnaaDoorW.PrintWords Go.Proofs.YtnjehpjkanfnnaaDoorW.PrintLast Go.Proofs.YtnjehpjkanfnnaaDoor.GivenTt Go.Proofs.YtnjehpjkanfnnaaDoorW.PrintMore
attribute [local go_sem] max2_int min2_int max_two min_two max_three min_three max_four min_four   -- for this text's walks alone
set_option linter.unusedVariables false
set_option linter.unusedSimpArgs false

/-! ### laws_zzFits4: function 4 -/
def laws_zzFits4.l0 : Nat → List ByteArray → Int → Int → Option (Bool)
  | 0, _, _, _ => none
  | k + 1, x8, x9, x10 => if x10 < x9 then (if 0 ≤ x10 then (if x10 < (x8.length : Int) then (if ((rdOf ByteArray.empty x8 x10).size : Int) > 2147483647 then (some false) else (laws_zzFits4.l0 k x8 x9 (wrap64 (x10 + 1)))) else (none)) else (none)) else (some true)
def laws_zzFits4.f (k : Nat) (l0 : List ByteArray) : Option (Bool) := if (l0.length : Int) > 2147483647 then (some false) else (laws_zzFits4.l0 k l0 (l0.length : Int) 0)
theorem laws_zzFits4.mono_l : ∀ k, (∀ y0 y1 y2, LeO (laws_zzFits4.l0 k y0 y1 y2) (laws_zzFits4.l0 (k + 1) y0 y1 y2))
  | 0 => fun _ _ _ r h => by simp [laws_zzFits4.l0] at h
  | k + 1 => by
    have ih0 := laws_zzFits4.mono_l k
    · intro y0 y1 y2
      unfold laws_zzFits4.l0
      repeat' first
      | (with_reducible exact ih0 _ _ _)
      | (with_reducible exact LeO.refl _)
      | (with_reducible exact LeO.none _)
      | (with_reducible refine LeO.ite ?_ ?_)
      | (with_reducible refine LeO.bind ?_ (fun _ => ?_))
      | exact ih0 _ _ _
      | exact LeO.none _
      | refine LeO.ite ?_ ?_
      | refine LeO.bind ?_ (fun _ => ?_)
theorem laws_zzFits4.mono : ∀ a0 k, LeO (laws_zzFits4.f k a0) (laws_zzFits4.f (k + 1) a0) := by
  intro a0 k
  have ih0 := laws_zzFits4.mono_l k
  unfold laws_zzFits4.f
  repeat' first
      | (with_reducible exact ih0 _ _ _)
      | (with_reducible exact LeO.refl _)
      | (with_reducible exact LeO.none _)
      | (with_reducible refine LeO.ite ?_ ?_)
      | (with_reducible refine LeO.bind ?_ (fun _ => ?_))
      | exact ih0 _ _ _
      | exact LeO.none _
      | refine LeO.ite ?_ ?_
      | refine LeO.bind ?_ (fun _ => ?_)
set_option maxHeartbeats 8000000 in
set_option maxRecDepth 100000 in
theorem laws_zzFits4.calls (k : Nat) (A0 : Option Addr) (c0 : Nat) (l0 : List ByteArray) (r : Bool) (w : World) (hr0 : Kd.C Kd.string w A0 l0.length l0) (hc0 : l0.length ≤ c0) (h : laws_zzFits4.f k l0 = some r) :
    Calls Tryd.prog 4 #[.slice A0 l0.length c0] w fun e w' => e = .returned (.bool r) ∧ Drawn0 w w' := by
  have HR0 := Aside0.mk hr0
  have HC0 := Aside0.mk hc0
  clear hr0 hc0
  have H : (if (l0.length : Int) > 2147483647 then (some false) else (laws_zzFits4.l0 k l0 (l0.length : Int) 0)) = some r := h
  clear h
  by_cases c2 : (l0.length : Int) > 2147483647
  · rw [if_pos c2] at H
    have c2b0 : decide (2147483647 < (l0.length : Int)) = true := decide_eq_true c2
    have c2b1 : decide (2147483647 < l0.length) = true := decide_eq_true (by omega)
    clear c2
    obtain rfl := Option.some.inj H
    go_enter Tryd.func4, Tryd.ntmps4
    go_wp2
    go_ret
    exact ⟨by first | rfl | (simp; done) | (simp [*]; done), by repeat (first | exact Drawn0.refl _ | apply Drawn0.step)⟩
  · rw [if_neg c2] at H
    have c2b0 : decide (2147483647 < (l0.length : Int)) = false := decide_eq_false c2
    have c2b1 : decide (2147483647 < l0.length) = false := decide_eq_false (by omega)
    clear c2
    have H' := Aside0.mk H
    clear H
    go_enter Tryd.func4, Tryd.ntmps4
    go_wp2
    go_loopg [10] k (fun kq v10 w' => ∃ (x10_1 : Int), v10 = .int .i64 x10_1 ∧ Aside0 (laws_zzFits4.l0 kq l0 (l0.length : Int) x10_1 = some r) ∧ Aside0 (kq ≤ k) ∧ Drawn0 w w')
    case atStart => exact ⟨(0), (by first | rfl | (simp; done) | (simp [*]; done)), H', ⟨Nat.le_refl _⟩, by repeat (first | exact Drawn0.refl _ | apply Drawn0.step)⟩
    case round =>
      clear H'
      try clear c2
      try clear c2b0
      try clear c2b1
      try clear p2
      obtain ⟨x10_1, rfl, HA, HK1, ⟨m1, rfl⟩⟩ := hrel
      cases gk with
      | zero => exact absurd HA.out (by simp [laws_zzFits4.l0])
      | succ k1 =>
        have H := HA.out
        clear HA
        simp only [laws_zzFits4.l0] at H
        by_cases c3 : x10_1 < (l0.length : Int)
        · rw [if_pos c3] at H
          have c3b0 : decide (x10_1 < (l0.length : Int)) = true := decide_eq_true c3
          clear c3
          by_cases c4 : 0 ≤ x10_1
          · rw [if_pos c4] at H
            have c4b0 : decide (0 ≤ x10_1) = true := decide_eq_true c4
            clear c4
            by_cases c5 : x10_1 < (l0.length : Int)
            · rw [if_pos c5] at H
              have c5b0 : decide (x10_1 < (l0.length : Int)) = true := decide_eq_true c5
              clear c5
              by_cases c6 : ((rdOf ByteArray.empty l0 x10_1).size : Int) > 2147483647
              · rw [if_pos c6] at H
                have c6b0 : decide (2147483647 < ((rdOf ByteArray.empty l0 x10_1).size : Int)) = true := decide_eq_true c6
                have c6b1 : decide (2147483647 < (rdOf ByteArray.empty l0 x10_1).size) = true := decide_eq_true (by omega)
                clear c6
                obtain rfl := Option.some.inj H
                have p101 : 0 ≤ (x10_1 : Int) := of_decide_eq_true (by first | (with_reducible assumption) | assumption)
                have q101 : x10_1 < (l0.length : Int) := of_decide_eq_true (by first | (with_reducible assumption) | assumption)
                obtain ⟨ad101, e101, hx101_0⟩ := Kd.at_string HR0.out x10_1 p101 q101
                cases e101
                replace p101 := eq_true p101
                replace q101 := eq_true q101
                go_wp2
                go_ret
                exact ⟨by first | rfl | (simp; done) | (simp [*]; done), by repeat (first | exact Drawn0.refl _ | apply Drawn0.step)⟩
              · rw [if_neg c6] at H
                have c6b0 : decide (2147483647 < ((rdOf ByteArray.empty l0 x10_1).size : Int)) = false := decide_eq_false c6
                have c6b1 : decide (2147483647 < (rdOf ByteArray.empty l0 x10_1).size) = false := decide_eq_false (by omega)
                clear c6
                have H' := Aside0.mk H
                clear H
                have p101 : 0 ≤ (x10_1 : Int) := of_decide_eq_true (by first | (with_reducible assumption) | assumption)
                have q101 : x10_1 < (l0.length : Int) := of_decide_eq_true (by first | (with_reducible assumption) | assumption)
                obtain ⟨ad101, e101, hx101_0⟩ := Kd.at_string HR0.out x10_1 p101 q101
                cases e101
                replace p101 := eq_true p101
                replace q101 := eq_true q101
                go_wp2
                go_roundg k1
                case measure => have := HK1.out; omega
                case rel => exact ⟨(wrap64 (x10_1 + 1)), (by first | rfl | (simp; done) | (simp [*]; done)), H', ⟨by have := HK1.out; omega⟩, by repeat (first | exact Drawn0.refl _ | apply Drawn0.step)⟩
            · rw [if_neg c5] at H
              exact absurd H (by simp)
          · rw [if_neg c4] at H
            exact absurd H (by simp)
        · rw [if_neg c3] at H
          have c3b0 : decide (x10_1 < (l0.length : Int)) = false := decide_eq_false c3
          clear c3
          obtain rfl := Option.some.inj H
          go_wp2
          go_ret
          exact ⟨by first | rfl | (simp; done) | (simp [*]; done), by repeat (first | exact Drawn0.refl _ | apply Drawn0.step)⟩

-- GIVEN: spec_TxSimple

-- GIVEN: spec_TxWords

/-! ### spec_TxTight: function 10 -/
def spec_TxTight.f (a0 : ByteArray) : Option (Bool) := if a0.toList = ([] : List UInt8) then (some false) else (if 0 < (a0.size : Int) then (if (bt a0 0) = 32 then (some false) else (if 0 ≤ (wrap64 ((a0.size : Int) - 1)) then (if (wrap64 ((a0.size : Int) - 1)) < (a0.size : Int) then (some ((bt a0 (wrap64 ((a0.size : Int) - 1))) != 32)) else (none)) else (none))) else (none))
set_option maxHeartbeats 8000000 in
set_option maxRecDepth 100000 in
theorem spec_TxTight.calls (a0 : ByteArray) (r : Bool) (w : World) (h : spec_TxTight.f a0 = some r) :
    Calls Tryd.prog 10 #[.string a0] w fun e w' => e = .returned (.bool r) ∧ Drawn0 w w' := by
  have H : (if a0.toList = ([] : List UInt8) then (some false) else (if 0 < (a0.size : Int) then (if (bt a0 0) = 32 then (some false) else (if 0 ≤ (wrap64 ((a0.size : Int) - 1)) then (if (wrap64 ((a0.size : Int) - 1)) < (a0.size : Int) then (some ((bt a0 (wrap64 ((a0.size : Int) - 1))) != 32)) else (none)) else (none))) else (none))) = some r := h
  clear h
  by_cases c2 : a0.toList = ([] : List UInt8)
  · rw [if_pos c2] at H
    have c2b0 : (a0.toList == ([] : List UInt8)) = true := beq_iff_eq.mpr c2
    have c2b1 : (a0.toList != ([] : List UInt8)) = false := bne_eq_false_iff_eq.mpr c2
    clear c2
    obtain rfl := Option.some.inj H
    go_enter Tryd.func10, Tryd.ntmps10
    go_wp2
    go_ret
    exact ⟨by first | rfl | (simp; done) | (simp [*]; done), by repeat (first | exact Drawn0.refl _ | apply Drawn0.step)⟩
  · rw [if_neg c2] at H
    have c2b0 : (a0.toList == ([] : List UInt8)) = false := beq_eq_false_iff_ne.mpr c2
    have c2b1 : (a0.toList != ([] : List UInt8)) = true := bne_iff_ne.mpr c2
    by_cases c3 : 0 < (a0.size : Int)
    · rw [if_pos c3] at H
      have c3b0 : decide (0 < (a0.size : Int)) = true := decide_eq_true c3
      have c3b1 : decide (0 < a0.size) = true := decide_eq_true (by omega)
      clear c3
      by_cases c5 : (bt a0 0) = 32
      · rw [if_pos c5] at H
        have c5b0 : ((bt a0 0) == 32) = true := beq_iff_eq.mpr c5
        have c5b1 : ((bt a0 0) != 32) = false := bne_eq_false_iff_eq.mpr c5
        clear c5
        obtain rfl := Option.some.inj H
        have p4 : 0 ≤ (0 : Int) := (by omega)
        have q4 : 0 < a0.size := (by have : (0 : Int) < (a0.size : Int) := of_decide_eq_true (by first | (with_reducible assumption) | assumption); omega)
        have hx4 : ∀ h : 0 < a0.size, ((a0[0]'h).toNat : Int) = bt a0 0 := bt_at a0 0
        clear p4
        have qi4 : (0 < (a0.size : Int)) = True := eq_true (of_decide_eq_true (by first | (with_reducible assumption) | assumption))
        replace q4 := eq_true q4
        go_enter Tryd.func10, Tryd.ntmps10
        go_wp2
        go_ret
        exact ⟨by first | rfl | (simp; done) | (simp [*]; done), by repeat (first | exact Drawn0.refl _ | apply Drawn0.step)⟩
      · rw [if_neg c5] at H
        have c5b0 : ((bt a0 0) == 32) = false := beq_eq_false_iff_ne.mpr c5
        have c5b1 : ((bt a0 0) != 32) = true := bne_iff_ne.mpr c5
        obtain ⟨ji6, hji6⟩ : ∃ j_ : Int, (wrap64 ((a0.size : Int) - 1)) = j_ := ⟨_, rfl⟩
        replace H : (if 0 ≤ (ji6) then (if (ji6) < (a0.size : Int) then (some ((bt a0 (ji6)) != 32)) else (none)) else (none)) = some r := by first | (rw [hji6] at H; exact H) | (simp only [hji6] at H ⊢; exact H)
        have hji6w : (IntKind.i64.wrap ((a0.size : Int) - 1)) = ji6 := (i64_w _).trans hji6
        by_cases c7 : 0 ≤ (ji6)
        · rw [if_pos c7] at H
          have c7b0 : decide (0 ≤ (ji6)) = true := decide_eq_true c7
          clear c7
          by_cases c8 : (ji6) < (a0.size : Int)
          · rw [if_pos c8] at H
            have c8b0 : decide ((ji6) < (a0.size : Int)) = true := decide_eq_true c8
            clear c8
            obtain rfl := Option.some.inj H
            have p4 : 0 ≤ (0 : Int) := (by omega)
            have q4 : 0 < a0.size := (by have : (0 : Int) < (a0.size : Int) := of_decide_eq_true (by first | (with_reducible assumption) | assumption); omega)
            have hx4 : ∀ h : 0 < a0.size, ((a0[0]'h).toNat : Int) = bt a0 0 := bt_at a0 0
            clear p4
            have qi4 : (0 < (a0.size : Int)) = True := eq_true (of_decide_eq_true (by first | (with_reducible assumption) | assumption))
            replace q4 := eq_true q4
            have p9 : 0 ≤ ((ji6) : Int) := of_decide_eq_true (by first | (with_reducible assumption) | assumption)
            have q9 : (ji6) < (a0.size : Int) := of_decide_eq_true (by first | (with_reducible assumption) | assumption)
            have hx9 := bt_at a0 (ji6)
            replace p9 := eq_true p9
            replace q9 := eq_true q9
            go_enter Tryd.func10, Tryd.ntmps10
            go_wp2
            go_ret
            exact ⟨by first | rfl | (simp; done) | (simp only [← hji6] <;> (first | rfl | simp)) | (simp [*]; done), by repeat (first | exact Drawn0.refl _ | apply Drawn0.step)⟩
          · rw [if_neg c8] at H
            exact absurd H (by simp)
        · rw [if_neg c7] at H
          exact absurd H (by simp)
    · rw [if_neg c3] at H
      exact absurd H (by simp)

-- GIVEN: spec_TxWidth

/-! ### laws_txSentence: function 5 -/
mutual
def laws_txSentence.l0 : Nat → List ByteArray → Int → ByteArray → List ByteArray → Int → Int → Option (ByteArray × Bool)
  | 0, _, _, _, _, _, _ => none
  | k + 1, x0, x1, x6, x9, x10, x11 => if x11 < x10 then (if 0 ≤ x11 then (if x11 < (x9.length : Int) then (if (rdOf ByteArray.empty x9 x11).toList = ([] : List UInt8) then (laws_txSentence.j1 k x0 x1 x6 x11 (rdOf ByteArray.empty x9 x11) x9 x10 x11 true) else (if ((rdOf ByteArray.empty x9 x11).size : Int) > 200 then (laws_txSentence.j1 k x0 x1 x6 x11 (rdOf ByteArray.empty x9 x11) x9 x10 x11 true) else ((spec_TxSimple.f (rdOf ByteArray.empty x9 x11) false).bind fun t103 => (if t103 = true then ((spec_TxWords.f (rdOf ByteArray.empty x9 x11)).bind fun t104 => (if (t104.length : Int) = 1 then ((spec_TxTight.f (rdOf ByteArray.empty x9 x11)).bind fun t107 => (if t107 = true then ((spec_TxWidth.f (rdOf ByteArray.empty x9 x11)).bind fun t108 => (laws_txSentence.j1 k x0 x1 x6 x11 (rdOf ByteArray.empty x9 x11) x9 x10 x11 (decide (t108 > x1)))) else (laws_txSentence.j1 k x0 x1 x6 x11 (rdOf ByteArray.empty x9 x11) x9 x10 x11 true))) else (laws_txSentence.j1 k x0 x1 x6 x11 (rdOf ByteArray.empty x9 x11) x9 x10 x11 true))) else (laws_txSentence.j1 k x0 x1 x6 x11 (rdOf ByteArray.empty x9 x11) x9 x10 x11 true))))) else (none)) else (none)) else (if (x0.length : Int) > 0 then (if (x0.length : Int) ≤ 60 then (some (x6, decide (x1 ≤ 300))) else (some (x6, false))) else (some (x6, false)))
def laws_txSentence.j1 : Nat → List ByteArray → Int → ByteArray → Int → ByteArray → List ByteArray → Int → Int → Bool → Option (ByteArray × Bool)
  | 0, _, _, _, _, _, _, _, _, _ => none
  | k + 1, x0, x1, x6, x7, x8, x9, x10, x11, x44 => if x44 = true then (some ((⟨#[]⟩ : ByteArray), false)) else (if x7 > 0 then (if x6.size + 1 ≤ 9223372036854775807 then (if (x6 ++ (⟨#[32]⟩ : ByteArray)).size + x8.size ≤ 9223372036854775807 then (laws_txSentence.l0 k x0 x1 ((x6 ++ (⟨#[32]⟩ : ByteArray)) ++ x8) x9 x10 (wrap64 (x11 + 1))) else (none)) else (none)) else (if x6.size + x8.size ≤ 9223372036854775807 then (laws_txSentence.l0 k x0 x1 (x6 ++ x8) x9 x10 (wrap64 (x11 + 1))) else (none)))
end
def laws_txSentence.f (k : Nat) (l0 : List ByteArray) (a1 : Int) : Option (ByteArray × Bool) := laws_txSentence.l0 k l0 a1 (⟨#[]⟩ : ByteArray) l0 (l0.length : Int) 0
theorem laws_txSentence.mono_l : ∀ k, (∀ y0 y1 y2 y3 y4 y5, LeO (laws_txSentence.l0 k y0 y1 y2 y3 y4 y5) (laws_txSentence.l0 (k + 1) y0 y1 y2 y3 y4 y5)) ∧ (∀ y0 y1 y2 y3 y4 y5 y6 y7 y8, LeO (laws_txSentence.j1 k y0 y1 y2 y3 y4 y5 y6 y7 y8) (laws_txSentence.j1 (k + 1) y0 y1 y2 y3 y4 y5 y6 y7 y8))
  | 0 => ⟨fun _ _ _ _ _ _ r h => by simp [laws_txSentence.l0] at h, fun _ _ _ _ _ _ _ _ _ r h => by simp [laws_txSentence.j1] at h⟩
  | k + 1 => by
    obtain ⟨ih0, ih1⟩ := laws_txSentence.mono_l k
    refine ⟨?_, ?_⟩
    · intro y0 y1 y2 y3 y4 y5
      unfold laws_txSentence.l0
      repeat' first
      | (with_reducible exact ih0 _ _ _ _ _ _)
      | (with_reducible exact ih1 _ _ _ _ _ _ _ _ _)
      | (with_reducible exact LeO.refl _)
      | (with_reducible exact LeO.none _)
      | (with_reducible refine LeO.ite ?_ ?_)
      | (with_reducible refine LeO.bind ?_ (fun _ => ?_))
      | exact ih0 _ _ _ _ _ _
      | exact ih1 _ _ _ _ _ _ _ _ _
      | exact LeO.none _
      | refine LeO.ite ?_ ?_
      | refine LeO.bind ?_ (fun _ => ?_)
    · intro y0 y1 y2 y3 y4 y5 y6 y7 y8
      unfold laws_txSentence.j1
      repeat' first
      | (with_reducible exact ih0 _ _ _ _ _ _)
      | (with_reducible exact ih1 _ _ _ _ _ _ _ _ _)
      | (with_reducible exact LeO.refl _)
      | (with_reducible exact LeO.none _)
      | (with_reducible refine LeO.ite ?_ ?_)
      | (with_reducible refine LeO.bind ?_ (fun _ => ?_))
      | exact ih0 _ _ _ _ _ _
      | exact ih1 _ _ _ _ _ _ _ _ _
      | exact LeO.none _
      | refine LeO.ite ?_ ?_
      | refine LeO.bind ?_ (fun _ => ?_)
theorem laws_txSentence.mono : ∀ a0 a1 k, LeO (laws_txSentence.f k a0 a1) (laws_txSentence.f (k + 1) a0 a1) := by
  intro a0 a1 k
  obtain ⟨ih0, ih1⟩ := laws_txSentence.mono_l k
  unfold laws_txSentence.f
  repeat' first
      | (with_reducible exact ih0 _ _ _ _ _ _)
      | (with_reducible exact ih1 _ _ _ _ _ _ _ _ _)
      | (with_reducible exact LeO.refl _)
      | (with_reducible exact LeO.none _)
      | (with_reducible refine LeO.ite ?_ ?_)
      | (with_reducible refine LeO.bind ?_ (fun _ => ?_))
      | exact ih0 _ _ _ _ _ _
      | exact ih1 _ _ _ _ _ _ _ _ _
      | exact LeO.none _
      | refine LeO.ite ?_ ?_
      | refine LeO.bind ?_ (fun _ => ?_)
set_option maxHeartbeats 8000000 in
set_option maxRecDepth 100000 in
theorem laws_txSentence.calls (k : Nat) (A0 : Option Addr) (c0 : Nat) (l0 : List ByteArray) (a1 : Int) (r1 : ByteArray) (r2 : Bool) (w : World) (hr0 : Kd.C Kd.string w A0 l0.length l0) (hc0 : l0.length ≤ c0) (h : laws_txSentence.f k l0 a1 = some (r1, r2)) :
    Calls Tryd.prog 5 #[.slice A0 l0.length c0, .int .i64 a1] w fun e w' => e = .returned (.tuple #[.string r1, .bool r2]) ∧ Below w.heap.size w w' := by
  have HR0 := Aside0.mk hr0
  have HC0 := Aside0.mk hc0
  clear hr0 hc0
  have HB := Aside0.mk (Below.refl w.heap.size w)
  have H : (laws_txSentence.l0 k l0 a1 (⟨#[]⟩ : ByteArray) l0 (l0.length : Int) 0) = some (r1, r2) := h
  clear h
  have H' := Aside0.mk H
  clear H
  go_enter Tryd.func5, Tryd.ntmps5
  go_wp2
  go_loopg [6, 11] k (fun kq v6 v11 w' => ∃ (x6_1 : ByteArray) (x11_1 : Int), v6 = .string x6_1 ∧ v11 = .int .i64 x11_1 ∧ Aside0 (laws_txSentence.l0 kq l0 a1 x6_1 l0 (l0.length : Int) x11_1 = some (r1, r2)) ∧ Aside0 (kq ≤ k) ∧ Aside0 (Below w.heap.size w w'))
  case atStart => exact ⟨((⟨#[]⟩ : ByteArray)), (0), (by first | rfl | (simp; done) | (simp [*]; done)), (by first | rfl | (simp; done) | (simp [*]; done)), H', ⟨Nat.le_refl _⟩, ⟨by repeat (first | (with_reducible first | exact HB.out | apply below_alloc | apply pw_below_drewN | apply below_drew1) | exact HB.out)⟩⟩
  case round =>
    clear H'
    try clear p2
    obtain ⟨x6_1, x11_1, rfl, rfl, HA, HK1, HB⟩ := hrel
    cases gk with
    | zero => exact absurd HA.out (by simp [laws_txSentence.l0])
    | succ k1 =>
      have H := HA.out
      clear HA
      simp only [laws_txSentence.l0] at H
      by_cases c3 : x11_1 < (l0.length : Int)
      · rw [if_pos c3] at H
        have c3b0 : decide (x11_1 < (l0.length : Int)) = true := decide_eq_true c3
        clear c3
        by_cases c4 : 0 ≤ x11_1
        · rw [if_pos c4] at H
          have c4b0 : decide (0 ≤ x11_1) = true := decide_eq_true c4
          clear c4
          by_cases c5 : x11_1 < (l0.length : Int)
          · rw [if_pos c5] at H
            have c5b0 : decide (x11_1 < (l0.length : Int)) = true := decide_eq_true c5
            clear c5
            have HC6 := Aside0.mk H
            clear H
            have p102 : 0 ≤ (x11_1 : Int) := of_decide_eq_true (by first | (with_reducible assumption) | assumption)
            have q102 : x11_1 < (l0.length : Int) := of_decide_eq_true (by first | (with_reducible assumption) | assumption)
            obtain ⟨ad102, e102, hx102_0⟩ := Kd.at_string HR0.out x11_1 p102 q102
            cases e102
            replace hx102_0 := (HB.out.cell (World.block_lt_of_cell? w _ hx102_0)).trans hx102_0
            replace p102 := eq_true p102
            replace q102 := eq_true q102
            go_upto_region 5 with (fail)
            go_cut [44] (fun v44 wc => ∃ (kq : Nat) (x44_5 : Bool), v44 = .bool x44_5 ∧ Aside0 (laws_txSentence.j1 kq l0 a1 x6_1 x11_1 (rdOf ByteArray.empty l0 x11_1) l0 (l0.length : Int) x11_1 x44_5 = some (r1, r2)) ∧ Aside0 (kq ≤ k1) ∧ Aside0 (Below w.heap.size w wc))
            case first =>
              have H := HC6.out
              clear HC6
              by_cases c7 : (rdOf ByteArray.empty l0 x11_1).toList = ([] : List UInt8)
              · rw [if_pos c7] at H
                have c7b0 : ((rdOf ByteArray.empty l0 x11_1).toList == ([] : List UInt8)) = true := beq_iff_eq.mpr c7
                have c7b1 : ((rdOf ByteArray.empty l0 x11_1).toList != ([] : List UInt8)) = false := bne_eq_false_iff_eq.mpr c7
                clear c7
                (first | rw [c7b0] | (simp only [i64_w, i32_w]; rw [c7b0]) | skip)
                have H' := Aside0.mk H
                clear H
                go_wp2
                go_meet
                case rel => exact ⟨_, (true), (by first | rfl | (simp; done) | (simp [*]; done)), H', ⟨by have := HK1.out; first | omega | exact Nat.le_refl _⟩, ⟨by repeat (first | (with_reducible first | exact HB.out | apply below_alloc | apply pw_below_drewN | apply below_drew1) | exact HB.out)⟩⟩
              · rw [if_neg c7] at H
                have c7b0 : ((rdOf ByteArray.empty l0 x11_1).toList == ([] : List UInt8)) = false := beq_eq_false_iff_ne.mpr c7
                have c7b1 : ((rdOf ByteArray.empty l0 x11_1).toList != ([] : List UInt8)) = true := bne_iff_ne.mpr c7
                (first | rw [c7b0] | (simp only [i64_w, i32_w]; rw [c7b0]) | skip)
                by_cases c8 : ((rdOf ByteArray.empty l0 x11_1).size : Int) > 200
                · rw [if_pos c8] at H
                  have c8b0 : decide (200 < ((rdOf ByteArray.empty l0 x11_1).size : Int)) = true := decide_eq_true c8
                  have c8b1 : decide (200 < (rdOf ByteArray.empty l0 x11_1).size) = true := decide_eq_true (by omega)
                  clear c8
                  have H' := Aside0.mk H
                  clear H
                  go_wp2
                  go_meet
                  case rel => exact ⟨_, (true), (by first | rfl | (simp; done) | (simp [*]; done)), H', ⟨by have := HK1.out; first | omega | exact Nat.le_refl _⟩, ⟨by repeat (first | (with_reducible first | exact HB.out | apply below_alloc | apply pw_below_drewN | apply below_drew1) | exact HB.out)⟩⟩
                · rw [if_neg c8] at H
                  have c8b0 : decide (200 < ((rdOf ByteArray.empty l0 x11_1).size : Int)) = false := decide_eq_false c8
                  have c8b1 : decide (200 < (rdOf ByteArray.empty l0 x11_1).size) = false := decide_eq_false (by omega)
                  clear c8
                  replace H := Option.bind_eq_some_iff.mp H
                  obtain ⟨t103, A90, H⟩ := H
                  replace H : (if t103 = true then ((spec_TxWords.f (rdOf ByteArray.empty l0 x11_1)).bind fun t104 => (if (t104.length : Int) = 1 then ((spec_TxTight.f (rdOf ByteArray.empty l0 x11_1)).bind fun t107 => (if t107 = true then ((spec_TxWidth.f (rdOf ByteArray.empty l0 x11_1)).bind fun t108 => (laws_txSentence.j1 k1 l0 a1 x6_1 x11_1 (rdOf ByteArray.empty l0 x11_1) l0 (l0.length : Int) x11_1 (decide (t108 > a1)))) else (laws_txSentence.j1 k1 l0 a1 x6_1 x11_1 (rdOf ByteArray.empty l0 x11_1) l0 (l0.length : Int) x11_1 true))) else (laws_txSentence.j1 k1 l0 a1 x6_1 x11_1 (rdOf ByteArray.empty l0 x11_1) l0 (l0.length : Int) x11_1 true))) else (laws_txSentence.j1 k1 l0 a1 x6_1 x11_1 (rdOf ByteArray.empty l0 x11_1) l0 (l0.length : Int) x11_1 true)) = some (r1, r2) := H
                  have A9 := Aside0.mk A90
                  clear A90
                  by_cases c10 : t103 = true
                  · subst c10
                    have H1 : ((spec_TxWords.f (rdOf ByteArray.empty l0 x11_1)).bind fun t104 => (if (t104.length : Int) = 1 then ((spec_TxTight.f (rdOf ByteArray.empty l0 x11_1)).bind fun t107 => (if t107 = true then ((spec_TxWidth.f (rdOf ByteArray.empty l0 x11_1)).bind fun t108 => (laws_txSentence.j1 k1 l0 a1 x6_1 x11_1 (rdOf ByteArray.empty l0 x11_1) l0 (l0.length : Int) x11_1 (decide (t108 > a1)))) else (laws_txSentence.j1 k1 l0 a1 x6_1 x11_1 (rdOf ByteArray.empty l0 x11_1) l0 (l0.length : Int) x11_1 true))) else (laws_txSentence.j1 k1 l0 a1 x6_1 x11_1 (rdOf ByteArray.empty l0 x11_1) l0 (l0.length : Int) x11_1 true))) = some (r1, r2) := by rw [if_pos rfl] at H; exact H
                    clear H
                    have H := H1
                    clear H1
                    replace H := Option.bind_eq_some_iff.mp H
                    obtain ⟨t104, A110, H⟩ := H
                    replace H : (if (t104.length : Int) = 1 then ((spec_TxTight.f (rdOf ByteArray.empty l0 x11_1)).bind fun t107 => (if t107 = true then ((spec_TxWidth.f (rdOf ByteArray.empty l0 x11_1)).bind fun t108 => (laws_txSentence.j1 k1 l0 a1 x6_1 x11_1 (rdOf ByteArray.empty l0 x11_1) l0 (l0.length : Int) x11_1 (decide (t108 > a1)))) else (laws_txSentence.j1 k1 l0 a1 x6_1 x11_1 (rdOf ByteArray.empty l0 x11_1) l0 (l0.length : Int) x11_1 true))) else (laws_txSentence.j1 k1 l0 a1 x6_1 x11_1 (rdOf ByteArray.empty l0 x11_1) l0 (l0.length : Int) x11_1 true)) = some (r1, r2) := H
                    have A11 := Aside0.mk A110
                    clear A110
                    by_cases c12 : (t104.length : Int) = 1
                    · rw [if_pos c12] at H
                      have c12b0 : ((t104.length : Int) == 1) = true := beq_iff_eq.mpr c12
                      have c12b1 : ((t104.length : Int) != 1) = false := bne_eq_false_iff_eq.mpr c12
                      clear c12
                      replace H := Option.bind_eq_some_iff.mp H
                      obtain ⟨t107, A130, H⟩ := H
                      replace H : (if t107 = true then ((spec_TxWidth.f (rdOf ByteArray.empty l0 x11_1)).bind fun t108 => (laws_txSentence.j1 k1 l0 a1 x6_1 x11_1 (rdOf ByteArray.empty l0 x11_1) l0 (l0.length : Int) x11_1 (decide (t108 > a1)))) else (laws_txSentence.j1 k1 l0 a1 x6_1 x11_1 (rdOf ByteArray.empty l0 x11_1) l0 (l0.length : Int) x11_1 true)) = some (r1, r2) := H
                      have A13 := Aside0.mk A130
                      clear A130
                      by_cases c14 : t107 = true
                      · subst c14
                        have H1 : ((spec_TxWidth.f (rdOf ByteArray.empty l0 x11_1)).bind fun t108 => (laws_txSentence.j1 k1 l0 a1 x6_1 x11_1 (rdOf ByteArray.empty l0 x11_1) l0 (l0.length : Int) x11_1 (decide (t108 > a1)))) = some (r1, r2) := by rw [if_pos rfl] at H; exact H
                        clear H
                        have H := H1
                        clear H1
                        replace H := Option.bind_eq_some_iff.mp H
                        obtain ⟨t108, A150, H⟩ := H
                        replace H : (laws_txSentence.j1 k1 l0 a1 x6_1 x11_1 (rdOf ByteArray.empty l0 x11_1) l0 (l0.length : Int) x11_1 (decide (t108 > a1))) = some (r1, r2) := H
                        have A15 := Aside0.mk A150
                        clear A150
                        have H' := Aside0.mk H
                        clear H
                        go_wp2_with (first | (go_at_call 8; (with_reducible refine (spec_TxSimple.calls (rdOf ByteArray.empty l0 x11_1) false true _ A9.out).mono ?_); rintro e w16 ⟨rfl, hb⟩; have n0_ := Aside0.mk (below_step (by repeat (first | (with_reducible first | exact HB.out | apply below_alloc | apply pw_below_drewN | apply below_drew1) | exact HB.out)) hb); clear HB; have HB := n0_; clear n0_; (try clear hb); (try clear hb2); (try clear hk); (try clear hi)) | (go_at_call 9; (with_reducible refine (spec_TxWords.calls (rdOf ByteArray.empty l0 x11_1) t104 _ A11.out).mono ?_); rintro e w17 ⟨v105, rfl, ho0, hb⟩; have n0_ := Aside0.mk (Kd.R_lower ho0 (below_size (by repeat (first | (with_reducible first | exact HB.out | apply below_alloc | apply pw_below_drewN | apply below_drew1) | exact HB.out)))); have n1_ := Aside0.mk (below_step (by repeat (first | (with_reducible first | exact HB.out | apply below_alloc | apply pw_below_drewN | apply below_drew1) | exact HB.out)) hb); clear HB; have HO106 := n0_; have HB := n1_; clear n0_ n1_; (try clear hb); (try clear hb2); (try clear hk); (try clear hi); (try clear ho0); obtain ⟨Ao18, co18, eo18⟩ := Kd.R_slice HO106.out; subst eo18) | (go_at_call 10; (with_reducible refine (spec_TxTight.calls (rdOf ByteArray.empty l0 x11_1) true _ A13.out).mono ?_); rintro e w' ⟨rfl, ⟨nd, rfl⟩⟩) | (go_at_call 11; (with_reducible refine (spec_TxWidth.calls (rdOf ByteArray.empty l0 x11_1) t108 _ A15.out).mono ?_); rintro e w19 ⟨rfl, hb⟩; have n0_ := Aside0.mk (Kd.R_below (by (with_reducible repeat (first | apply Kd.R_alloc | apply Kd.R_drewN | apply Kd.R_drew)); exact HO106.out) hb); have n1_ := Aside0.mk (below_step (by repeat (first | (with_reducible first | exact HB.out | apply below_alloc | apply pw_below_drewN | apply below_drew1) | exact HB.out)) hb); clear HO106; clear HB; have HO106 := n0_; have HB := n1_; clear n0_ n1_; (try clear hb); (try clear hb2); (try clear hk); (try clear hi)))
                        go_meet
                        case rel => exact ⟨_, (decide (t108 > a1)), (by first | rfl | (simp; done) | (simp [*]; done)), H', ⟨by have := HK1.out; first | omega | exact Nat.le_refl _⟩, ⟨by repeat (first | (with_reducible first | exact HB.out | apply below_alloc | apply pw_below_drewN | apply below_drew1) | exact HB.out)⟩⟩
                      · replace c14 := Bool.eq_false_iff.mpr c14
                        subst c14
                        have H1 : (laws_txSentence.j1 k1 l0 a1 x6_1 x11_1 (rdOf ByteArray.empty l0 x11_1) l0 (l0.length : Int) x11_1 true) = some (r1, r2) := by rw [if_neg (show ¬ (false = true) by decide)] at H; exact H
                        clear H
                        have H := H1
                        clear H1
                        have H' := Aside0.mk H
                        clear H
                        go_wp2_with (first | (go_at_call 8; (with_reducible refine (spec_TxSimple.calls (rdOf ByteArray.empty l0 x11_1) false true _ A9.out).mono ?_); rintro e w20 ⟨rfl, hb⟩; have n0_ := Aside0.mk (below_step (by repeat (first | (with_reducible first | exact HB.out | apply below_alloc | apply pw_below_drewN | apply below_drew1) | exact HB.out)) hb); clear HB; have HB := n0_; clear n0_; (try clear hb); (try clear hb2); (try clear hk); (try clear hi)) | (go_at_call 9; (with_reducible refine (spec_TxWords.calls (rdOf ByteArray.empty l0 x11_1) t104 _ A11.out).mono ?_); rintro e w21 ⟨v105, rfl, ho0, hb⟩; have n0_ := Aside0.mk (Kd.R_lower ho0 (below_size (by repeat (first | (with_reducible first | exact HB.out | apply below_alloc | apply pw_below_drewN | apply below_drew1) | exact HB.out)))); have n1_ := Aside0.mk (below_step (by repeat (first | (with_reducible first | exact HB.out | apply below_alloc | apply pw_below_drewN | apply below_drew1) | exact HB.out)) hb); clear HB; have HO106 := n0_; have HB := n1_; clear n0_ n1_; (try clear hb); (try clear hb2); (try clear hk); (try clear hi); (try clear ho0); obtain ⟨Ao22, co22, eo22⟩ := Kd.R_slice HO106.out; subst eo22) | (go_at_call 10; (with_reducible refine (spec_TxTight.calls (rdOf ByteArray.empty l0 x11_1) false _ A13.out).mono ?_); rintro e w' ⟨rfl, ⟨nd, rfl⟩⟩))
                        go_meet
                        case rel => exact ⟨_, (true), (by first | rfl | (simp; done) | (simp [*]; done)), H', ⟨by have := HK1.out; first | omega | exact Nat.le_refl _⟩, ⟨by repeat (first | (with_reducible first | exact HB.out | apply below_alloc | apply pw_below_drewN | apply below_drew1) | exact HB.out)⟩⟩
                    · rw [if_neg c12] at H
                      have c12b0 : ((t104.length : Int) == 1) = false := beq_eq_false_iff_ne.mpr c12
                      have c12b1 : ((t104.length : Int) != 1) = true := bne_iff_ne.mpr c12
                      have H' := Aside0.mk H
                      clear H
                      go_wp2_with (first | (go_at_call 8; (with_reducible refine (spec_TxSimple.calls (rdOf ByteArray.empty l0 x11_1) false true _ A9.out).mono ?_); rintro e w23 ⟨rfl, hb⟩; have n0_ := Aside0.mk (below_step (by repeat (first | (with_reducible first | exact HB.out | apply below_alloc | apply pw_below_drewN | apply below_drew1) | exact HB.out)) hb); clear HB; have HB := n0_; clear n0_; (try clear hb); (try clear hb2); (try clear hk); (try clear hi)) | (go_at_call 9; (with_reducible refine (spec_TxWords.calls (rdOf ByteArray.empty l0 x11_1) t104 _ A11.out).mono ?_); rintro e w24 ⟨v105, rfl, ho0, hb⟩; have n0_ := Aside0.mk (Kd.R_lower ho0 (below_size (by repeat (first | (with_reducible first | exact HB.out | apply below_alloc | apply pw_below_drewN | apply below_drew1) | exact HB.out)))); have n1_ := Aside0.mk (below_step (by repeat (first | (with_reducible first | exact HB.out | apply below_alloc | apply pw_below_drewN | apply below_drew1) | exact HB.out)) hb); clear HB; have HO106 := n0_; have HB := n1_; clear n0_ n1_; (try clear hb); (try clear hb2); (try clear hk); (try clear hi); (try clear ho0); obtain ⟨Ao25, co25, eo25⟩ := Kd.R_slice HO106.out; subst eo25))
                      go_meet
                      case rel => exact ⟨_, (true), (by first | rfl | (simp; done) | (simp [*]; done)), H', ⟨by have := HK1.out; first | omega | exact Nat.le_refl _⟩, ⟨by repeat (first | (with_reducible first | exact HB.out | apply below_alloc | apply pw_below_drewN | apply below_drew1) | exact HB.out)⟩⟩
                  · replace c10 := Bool.eq_false_iff.mpr c10
                    subst c10
                    have H1 : (laws_txSentence.j1 k1 l0 a1 x6_1 x11_1 (rdOf ByteArray.empty l0 x11_1) l0 (l0.length : Int) x11_1 true) = some (r1, r2) := by rw [if_neg (show ¬ (false = true) by decide)] at H; exact H
                    clear H
                    have H := H1
                    clear H1
                    have H' := Aside0.mk H
                    clear H
                    go_wp2_with (first | (go_at_call 8; (with_reducible refine (spec_TxSimple.calls (rdOf ByteArray.empty l0 x11_1) false false _ A9.out).mono ?_); rintro e w26 ⟨rfl, hb⟩; have n0_ := Aside0.mk (below_step (by repeat (first | (with_reducible first | exact HB.out | apply below_alloc | apply pw_below_drewN | apply below_drew1) | exact HB.out)) hb); clear HB; have HB := n0_; clear n0_; (try clear hb); (try clear hb2); (try clear hk); (try clear hi)))
                    go_meet
                    case rel => exact ⟨_, (true), (by first | rfl | (simp; done) | (simp [*]; done)), H', ⟨by have := HK1.out; first | omega | exact Nat.le_refl _⟩, ⟨by repeat (first | (with_reducible first | exact HB.out | apply below_alloc | apply pw_below_drewN | apply below_drew1) | exact HB.out)⟩⟩
            case rest =>
              clear HC6
              try clear c1
              try clear p1
              try clear q1
              try clear hx1
              try clear p2
              try clear c3
              try clear c3b0
              try clear c4
              try clear c4b0
              try clear c5
              try clear c5b0
              try clear c7
              try clear c7b0
              try clear c7b1
              try clear c8
              try clear c8b0
              try clear c8b1
              try clear c10
              try clear p10
              try clear q10
              try clear hx10
              try clear c12
              try clear c12b0
              try clear c12b1
              try clear c14
              try clear hx102_0
              try clear p102
              try clear p2
              try clear q102
              obtain ⟨kq, x44_5, rfl, HA, HJ5, HB⟩ := hcut
              cases kq with
              | zero => exact absurd HA.out (by simp [laws_txSentence.j1])
              | succ kj5 =>
                have H := HA.out
                clear HA
                simp only [laws_txSentence.j1] at H
                by_cases c27 : x44_5 = true
                · subst c27
                  have H1 : (some ((⟨#[]⟩ : ByteArray), false)) = some (r1, r2) := by rw [if_pos rfl] at H; exact H
                  clear H
                  have H := H1
                  clear H1
                  simp only [Option.some.injEq, Prod.mk.injEq] at H
                  obtain ⟨rfl, rfl⟩ := H
                  go_wp2
                  go_ret2
                  exact ⟨by first | rfl | (simp [errW_none, errW_some] <;> rfl) | (simp [*, errW_none, errW_some] <;> rfl), by repeat (first | (with_reducible first | exact HB.out | apply below_alloc | apply pw_below_drewN | apply below_drew1) | exact HB.out)⟩
                · replace c27 := Bool.eq_false_iff.mpr c27
                  subst c27
                  have H1 : (if x11_1 > 0 then (if x6_1.size + 1 ≤ 9223372036854775807 then (if (x6_1 ++ (⟨#[32]⟩ : ByteArray)).size + (rdOf ByteArray.empty l0 x11_1).size ≤ 9223372036854775807 then (laws_txSentence.l0 kj5 l0 a1 ((x6_1 ++ (⟨#[32]⟩ : ByteArray)) ++ (rdOf ByteArray.empty l0 x11_1)) l0 (l0.length : Int) (wrap64 (x11_1 + 1))) else (none)) else (none)) else (if x6_1.size + (rdOf ByteArray.empty l0 x11_1).size ≤ 9223372036854775807 then (laws_txSentence.l0 kj5 l0 a1 (x6_1 ++ (rdOf ByteArray.empty l0 x11_1)) l0 (l0.length : Int) (wrap64 (x11_1 + 1))) else (none))) = some (r1, r2) := by rw [if_neg (show ¬ (false = true) by decide)] at H; exact H
                  clear H
                  have H := H1
                  clear H1
                  by_cases c28 : x11_1 > 0
                  · rw [if_pos c28] at H
                    have c28b0 : decide (0 < x11_1) = true := decide_eq_true c28
                    clear c28
                    by_cases c29 : x6_1.size + 1 ≤ 9223372036854775807
                    · rw [if_pos c29] at H
                      have c29b0 := eq_true c29
                      have c29b1 : decide (x6_1.size + 1 ≤ 9223372036854775807) = true := decide_eq_true c29
                      try have c29b2 : (9223372036854775807 < x6_1.size + 1) = False := eq_false (Nat.not_lt.2 c29)
                      by_cases c30 : (x6_1 ++ (⟨#[32]⟩ : ByteArray)).size + (rdOf ByteArray.empty l0 x11_1).size ≤ 9223372036854775807
                      · rw [if_pos c30] at H
                        have c30b0 := eq_true c30
                        have c30b1 : decide ((x6_1 ++ (⟨#[32]⟩ : ByteArray)).size + (rdOf ByteArray.empty l0 x11_1).size ≤ 9223372036854775807) = true := decide_eq_true c30
                        try have c30b2 : (9223372036854775807 < (x6_1 ++ (⟨#[32]⟩ : ByteArray)).size + (rdOf ByteArray.empty l0 x11_1).size) = False := eq_false (Nat.not_lt.2 c30)
                        try have c30b3 : (9223372036854775807 < x6_1.size + 1 + (rdOf ByteArray.empty l0 x11_1).size) = False := eq_false (by have e_ : ((x6_1 ++ (⟨#[32]⟩ : ByteArray)).size + (rdOf ByteArray.empty l0 x11_1).size) = (x6_1.size + 1 + (rdOf ByteArray.empty l0 x11_1).size) := (by (simp only [ByteArray.size_append]; first | done | rfl)); have z_ := c30; rw [e_] at z_; omega)
                        have H' := Aside0.mk H
                        clear H
                        go_wp2
                        go_roundg kj5
                        case measure => have := HK1.out; have := HJ5.out; omega
                        case rel => exact ⟨((x6_1 ++ (⟨#[32]⟩ : ByteArray)) ++ (rdOf ByteArray.empty l0 x11_1)), (wrap64 (x11_1 + 1)), (by first | rfl | (simp; done) | (simp [*]; done)), (by first | rfl | (simp; done) | (simp [*]; done)), H', ⟨by have := HK1.out; have := HJ5.out; omega⟩, ⟨by repeat (first | (with_reducible first | exact HB.out | apply below_alloc | apply pw_below_drewN | apply below_drew1) | exact HB.out)⟩⟩
                      · rw [if_neg c30] at H
                        exact absurd H (by simp)
                    · rw [if_neg c29] at H
                      exact absurd H (by simp)
                  · rw [if_neg c28] at H
                    have c28b0 : decide (0 < x11_1) = false := decide_eq_false c28
                    clear c28
                    by_cases c31 : x6_1.size + (rdOf ByteArray.empty l0 x11_1).size ≤ 9223372036854775807
                    · rw [if_pos c31] at H
                      have c31b0 := eq_true c31
                      have c31b1 : decide (x6_1.size + (rdOf ByteArray.empty l0 x11_1).size ≤ 9223372036854775807) = true := decide_eq_true c31
                      try have c31b2 : (9223372036854775807 < x6_1.size + (rdOf ByteArray.empty l0 x11_1).size) = False := eq_false (Nat.not_lt.2 c31)
                      have H' := Aside0.mk H
                      clear H
                      go_wp2
                      go_roundg kj5
                      case measure => have := HK1.out; have := HJ5.out; omega
                      case rel => exact ⟨(x6_1 ++ (rdOf ByteArray.empty l0 x11_1)), (wrap64 (x11_1 + 1)), (by first | rfl | (simp; done) | (simp [*]; done)), (by first | rfl | (simp; done) | (simp [*]; done)), H', ⟨by have := HK1.out; have := HJ5.out; omega⟩, ⟨by repeat (first | (with_reducible first | exact HB.out | apply below_alloc | apply pw_below_drewN | apply below_drew1) | exact HB.out)⟩⟩
                    · rw [if_neg c31] at H
                      exact absurd H (by simp)
          · rw [if_neg c5] at H
            exact absurd H (by simp)
        · rw [if_neg c4] at H
          exact absurd H (by simp)
      · rw [if_neg c3] at H
        have c3b0 : decide (x11_1 < (l0.length : Int)) = false := decide_eq_false c3
        clear c3
        by_cases c32 : (l0.length : Int) > 0
        · rw [if_pos c32] at H
          have c32b0 : decide (0 < (l0.length : Int)) = true := decide_eq_true c32
          have c32b1 : decide (0 < l0.length) = true := decide_eq_true (by omega)
          clear c32
          by_cases c33 : (l0.length : Int) ≤ 60
          · rw [if_pos c33] at H
            have c33b0 : decide ((l0.length : Int) ≤ 60) = true := decide_eq_true c33
            have c33b1 : decide (l0.length ≤ 60) = true := decide_eq_true (by omega)
            clear c33
            simp only [Option.some.injEq, Prod.mk.injEq] at H
            obtain ⟨rfl, rfl⟩ := H
            go_wp2
            go_ret2
            exact ⟨by first | rfl | (simp [errW_none, errW_some] <;> rfl) | (simp [*, errW_none, errW_some] <;> rfl), by repeat (first | (with_reducible first | exact HB.out | apply below_alloc | apply pw_below_drewN | apply below_drew1) | exact HB.out)⟩
          · rw [if_neg c33] at H
            have c33b0 : decide ((l0.length : Int) ≤ 60) = false := decide_eq_false c33
            have c33b1 : decide (l0.length ≤ 60) = false := decide_eq_false (by omega)
            clear c33
            simp only [Option.some.injEq, Prod.mk.injEq] at H
            obtain ⟨rfl, rfl⟩ := H
            go_wp2
            go_ret2
            exact ⟨by first | rfl | (simp [errW_none, errW_some] <;> rfl) | (simp [*, errW_none, errW_some] <;> rfl), by repeat (first | (with_reducible first | exact HB.out | apply below_alloc | apply pw_below_drewN | apply below_drew1) | exact HB.out)⟩
        · rw [if_neg c32] at H
          have c32b0 : decide (0 < (l0.length : Int)) = false := decide_eq_false c32
          have c32b1 : decide (0 < l0.length) = false := decide_eq_false (by omega)
          clear c32
          simp only [Option.some.injEq, Prod.mk.injEq] at H
          obtain ⟨rfl, rfl⟩ := H
          go_wp2
          go_ret2
          exact ⟨by first | rfl | (simp [errW_none, errW_some] <;> rfl) | (simp [*, errW_none, errW_some] <;> rfl), by repeat (first | (with_reducible first | exact HB.out | apply below_alloc | apply pw_below_drewN | apply below_drew1) | exact HB.out)⟩

-- GIVEN: impl_TextFormat

/-! ### spec_TxCase: function 7 -/
def spec_TxCase.j0 : Nat → Int → Int → Bool → Option (Int)
  | 0, _, _, _ => none
  | k + 1, x0, x1, x14 => if x14 = true then (some (wrap32 (x0 + 32))) else (if x1 = 3 then (if x0 ≥ 97 then (if x0 ≤ 122 then (some (wrap32 (x0 - 32))) else (some x0)) else (some x0)) else (some x0))
def spec_TxCase.f (k : Nat) (a0 : Int) (a1 : Int) : Option (Int) := if a1 = 1 then (if a0 ≥ 65 then (spec_TxCase.j0 k a0 a1 (decide (a0 ≤ 90))) else (spec_TxCase.j0 k a0 a1 false)) else (spec_TxCase.j0 k a0 a1 false)
theorem spec_TxCase.mono_l : ∀ k, (∀ y0 y1 y2, LeO (spec_TxCase.j0 k y0 y1 y2) (spec_TxCase.j0 (k + 1) y0 y1 y2))
  | 0 => fun _ _ _ r h => by simp [spec_TxCase.j0] at h
  | k + 1 => by
    have ih0 := spec_TxCase.mono_l k
    · intro y0 y1 y2
      unfold spec_TxCase.j0
      repeat' first
      | (with_reducible exact ih0 _ _ _)
      | (with_reducible exact LeO.refl _)
      | (with_reducible exact LeO.none _)
      | (with_reducible refine LeO.ite ?_ ?_)
      | (with_reducible refine LeO.bind ?_ (fun _ => ?_))
      | exact ih0 _ _ _
      | exact LeO.none _
      | refine LeO.ite ?_ ?_
      | refine LeO.bind ?_ (fun _ => ?_)
theorem spec_TxCase.mono : ∀ a0 a1 k, LeO (spec_TxCase.f k a0 a1) (spec_TxCase.f (k + 1) a0 a1) := by
  intro a0 a1 k
  have ih0 := spec_TxCase.mono_l k
  unfold spec_TxCase.f
  repeat' first
      | (with_reducible exact ih0 _ _ _)
      | (with_reducible exact LeO.refl _)
      | (with_reducible exact LeO.none _)
      | (with_reducible refine LeO.ite ?_ ?_)
      | (with_reducible refine LeO.bind ?_ (fun _ => ?_))
      | exact ih0 _ _ _
      | exact LeO.none _
      | refine LeO.ite ?_ ?_
      | refine LeO.bind ?_ (fun _ => ?_)
set_option maxHeartbeats 8000000 in
set_option maxRecDepth 100000 in
theorem spec_TxCase.calls (k : Nat) (a0 : Int) (a1 : Int) (r : Int) (w : World) (h : spec_TxCase.f k a0 a1 = some r) :
    Calls Tryd.prog 7 #[.int .i32 a0, .int .i64 a1] w fun e w' => e = .returned (.int .i32 r) ∧ Drawn0 w w' := by
  have H : (if a1 = 1 then (if a0 ≥ 65 then (spec_TxCase.j0 k a0 a1 (decide (a0 ≤ 90))) else (spec_TxCase.j0 k a0 a1 false)) else (spec_TxCase.j0 k a0 a1 false)) = some r := h
  clear h
  have HC3 := Aside0.mk H
  clear H
  go_enter Tryd.func7, Tryd.ntmps7
  go_upto_region 1 with (fail)
  go_cut [14] (fun v14 wc => ∃ (kq : Nat) (x14_2 : Bool), v14 = .bool x14_2 ∧ Aside0 (spec_TxCase.j0 kq a0 a1 x14_2 = some r) ∧ Aside0 (kq ≤ k) ∧ Drawn0 w wc)
  case first =>
    have H := HC3.out
    clear HC3
    by_cases c4 : a1 = 1
    · rw [if_pos c4] at H
      have c4b0 : (a1 == 1) = true := beq_iff_eq.mpr c4
      have c4b1 : (a1 != 1) = false := bne_eq_false_iff_eq.mpr c4
      clear c4
      (first | rw [c4b0] | (simp only [i64_w, i32_w]; rw [c4b0]) | skip)
      by_cases c5 : a0 ≥ 65
      · rw [if_pos c5] at H
        have c5b0 : decide (65 ≤ a0) = true := decide_eq_true c5
        clear c5
        have H' := Aside0.mk H
        clear H
        go_wp2
        go_meet
        case rel => exact ⟨_, (decide (a0 ≤ 90)), (by first | rfl | (simp; done) | (simp [*]; done)), H', ⟨by first | omega | exact Nat.le_refl _⟩, by repeat (first | exact Drawn0.refl _ | apply Drawn0.step)⟩
      · rw [if_neg c5] at H
        have c5b0 : decide (65 ≤ a0) = false := decide_eq_false c5
        clear c5
        have H' := Aside0.mk H
        clear H
        go_wp2
        go_meet
        case rel => exact ⟨_, (false), (by first | rfl | (simp; done) | (simp [*]; done)), H', ⟨by first | omega | exact Nat.le_refl _⟩, by repeat (first | exact Drawn0.refl _ | apply Drawn0.step)⟩
    · rw [if_neg c4] at H
      have c4b0 : (a1 == 1) = false := beq_eq_false_iff_ne.mpr c4
      have c4b1 : (a1 != 1) = true := bne_iff_ne.mpr c4
      (first | rw [c4b0] | (simp only [i64_w, i32_w]; rw [c4b0]) | skip)
      have H' := Aside0.mk H
      clear H
      go_wp2
      go_meet
      case rel => exact ⟨_, (false), (by first | rfl | (simp; done) | (simp [*]; done)), H', ⟨by first | omega | exact Nat.le_refl _⟩, by repeat (first | exact Drawn0.refl _ | apply Drawn0.step)⟩
  case rest =>
    clear HC3
    try clear p2
    try clear c4
    try clear c4b0
    try clear c4b1
    try clear c5
    try clear c5b0
    obtain ⟨kq, x14_2, rfl, HA, HJ2, ⟨mc2, rfl⟩⟩ := hcut
    cases kq with
    | zero => exact absurd HA.out (by simp [spec_TxCase.j0])
    | succ kj2 =>
      have H := HA.out
      clear HA
      simp only [spec_TxCase.j0] at H
      by_cases c6 : x14_2 = true
      · subst c6
        have H1 : (some (wrap32 (a0 + 32))) = some r := by rw [if_pos rfl] at H; exact H
        clear H
        have H := H1
        clear H1
        obtain rfl := Option.some.inj H
        go_wp2
        go_ret
        exact ⟨by first | rfl | (simp; done) | (simp [*]; done), by repeat (first | exact Drawn0.refl _ | apply Drawn0.step)⟩
      · replace c6 := Bool.eq_false_iff.mpr c6
        subst c6
        have H1 : (if a1 = 3 then (if a0 ≥ 97 then (if a0 ≤ 122 then (some (wrap32 (a0 - 32))) else (some a0)) else (some a0)) else (some a0)) = some r := by rw [if_neg (show ¬ (false = true) by decide)] at H; exact H
        clear H
        have H := H1
        clear H1
        by_cases c7 : a1 = 3
        · rw [if_pos c7] at H
          have c7b0 : (a1 == 3) = true := beq_iff_eq.mpr c7
          have c7b1 : (a1 != 3) = false := bne_eq_false_iff_eq.mpr c7
          clear c7
          by_cases c8 : a0 ≥ 97
          · rw [if_pos c8] at H
            have c8b0 : decide (97 ≤ a0) = true := decide_eq_true c8
            clear c8
            by_cases c9 : a0 ≤ 122
            · rw [if_pos c9] at H
              have c9b0 : decide (a0 ≤ 122) = true := decide_eq_true c9
              clear c9
              obtain rfl := Option.some.inj H
              go_wp2
              go_ret
              exact ⟨by first | rfl | (simp; done) | (simp [*]; done), by repeat (first | exact Drawn0.refl _ | apply Drawn0.step)⟩
            · rw [if_neg c9] at H
              have c9b0 : decide (a0 ≤ 122) = false := decide_eq_false c9
              clear c9
              obtain rfl := Option.some.inj H
              go_wp2
              go_ret
              exact ⟨by first | rfl | (simp; done) | (simp [*]; done), by repeat (first | exact Drawn0.refl _ | apply Drawn0.step)⟩
          · rw [if_neg c8] at H
            have c8b0 : decide (97 ≤ a0) = false := decide_eq_false c8
            clear c8
            obtain rfl := Option.some.inj H
            go_wp2
            go_ret
            exact ⟨by first | rfl | (simp; done) | (simp [*]; done), by repeat (first | exact Drawn0.refl _ | apply Drawn0.step)⟩
        · rw [if_neg c7] at H
          have c7b0 : (a1 == 3) = false := beq_eq_false_iff_ne.mpr c7
          have c7b1 : (a1 != 3) = true := bne_iff_ne.mpr c7
          obtain rfl := Option.some.inj H
          go_wp2
          go_ret
          exact ⟨by first | rfl | (simp; done) | (simp [*]; done), by repeat (first | exact Drawn0.refl _ | apply Drawn0.step)⟩

end Go.Proofs.YtnjehpjkanfnnaaDoor.GFnTextFormatTitle
