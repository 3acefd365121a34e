-- printed by a program of this session (gprint.py) out of the translation; Lean checks it
import Derived.Test.YtjoagjkmghmnnaaGFnCsvRowx0
import Derived.Test.YtjoagjkmghmnnaaGFnCsvRowx1
import Derived.Test.YtjoagjkmghmnnaaGFnCsvRowx2
import Derived.Test.YtjoagjkmghmnnaaGivenCsv
namespace Go.Proofs.Ytjoagjkmghmnnaa.GFnCsvRow
open Go.RowKit Go.Proofs.YtjoagjkmghmnnaaW.PrintWords Go.Proofs.YtjoagjkmghmnnaaW.PrintLast Go.Proofs.Ytjoagjkmghmnnaa.GivenCsv Go.Proofs.YtjoagjkmghmnnaaW.PrintMore
attribute [local go_sem] max2_int min2_int max_two min_two max_three min_three max_four min_four   -- for this text's walks alone
set_option linter.unusedVariables false
set_option linter.unusedSimpArgs false

/-! ### spec_CsvRow: function 40 -/
mutual
def spec_CsvRow.l0 : Nat → List ByteArray → Int → Bool → Bool → Int → List ByteArray → Int → Option (ByteArray)
  | 0, _, _, _, _, _, _, _ => none
  | k + 1, x0, x1, x2, x3, x4, x11, x12 => if x12 < (x0.length : Int) then (if 0 ≤ x12 then (if x2 = true then (if (rdOf ByteArray.empty x0 x12).toList = ([] : List UInt8) then (spec_CsvRow.j1 k x0 x1 x2 x3 x4 x11 x12 (rdOf ByteArray.empty x0 x12) false) else (if 0 < ((rdOf ByteArray.empty x0 x12).size : Int) then (if (bt (rdOf ByteArray.empty x0 x12) 0) = 61 then (spec_CsvRow.j1 k x0 x1 x2 x3 x4 x11 x12 (rdOf ByteArray.empty x0 x12) true) else (if (bt (rdOf ByteArray.empty x0 x12) 0) = 43 then (spec_CsvRow.j1 k x0 x1 x2 x3 x4 x11 x12 (rdOf ByteArray.empty x0 x12) true) else (if (bt (rdOf ByteArray.empty x0 x12) 0) = 45 then (spec_CsvRow.j1 k x0 x1 x2 x3 x4 x11 x12 (rdOf ByteArray.empty x0 x12) true) else (if (bt (rdOf ByteArray.empty x0 x12) 0) = 64 then (spec_CsvRow.j1 k x0 x1 x2 x3 x4 x11 x12 (rdOf ByteArray.empty x0 x12) true) else (if (bt (rdOf ByteArray.empty x0 x12) 0) = 9 then (spec_CsvRow.j1 k x0 x1 x2 x3 x4 x11 x12 (rdOf ByteArray.empty x0 x12) true) else (spec_CsvRow.j1 k x0 x1 x2 x3 x4 x11 x12 (rdOf ByteArray.empty x0 x12) ((bt (rdOf ByteArray.empty x0 x12) 0) == 13))))))) else (none))) else (spec_CsvRow.j1 k x0 x1 x2 x3 x4 x11 x12 (rdOf ByteArray.empty x0 x12) false)) else (none)) else ((spec_separated.f k x11 x1 (⟨#[44]⟩ : ByteArray) x3 x4).bind fun t122 => (some t122))
def spec_CsvRow.j1 : Nat → List ByteArray → Int → Bool → Bool → Int → List ByteArray → Int → ByteArray → Bool → Option (ByteArray)
  | 0, _, _, _, _, _, _, _, _, _ => none
  | k + 1, x0, x1, x2, x3, x4, x11, x12, x13, x58 => if x58 = true then (if 1 + x13.size ≤ 9223372036854775807 then (spec_CsvRow.j2 k x0 x1 x2 x3 x4 x11 x12 ((⟨#[39]⟩ : ByteArray) ++ x13)) else (none)) else (spec_CsvRow.j2 k x0 x1 x2 x3 x4 x11 x12 x13)
def spec_CsvRow.j2 : Nat → List ByteArray → Int → Bool → Bool → Int → List ByteArray → Int → ByteArray → Option (ByteArray)
  | 0, _, _, _, _, _, _, _, _ => none
  | k + 1, x0, x1, x2, x3, x4, x11, x12, x13 => (spec_has.f k x13 (⟨#[34]⟩ : ByteArray)).bind fun t124 => (if t124 = true then ((spec_quoted.f k x13).bind fun t125 => (if x11.length < 8796093022208 then (spec_CsvRow.l0 k x0 x1 x2 x3 x4 (x11 ++ [t125]) (wrap64 (x12 + 1))) else (none))) else ((spec_has.f k x13 (⟨#[44]⟩ : ByteArray)).bind fun t129 => (if t129 = true then ((spec_quoted.f k x13).bind fun t130 => (if x11.length < 8796093022208 then (spec_CsvRow.l0 k x0 x1 x2 x3 x4 (x11 ++ [t130]) (wrap64 (x12 + 1))) else (none))) else ((spec_has.f k x13 (⟨#[10]⟩ : ByteArray)).bind fun t134 => (if t134 = true then ((spec_quoted.f k x13).bind fun t135 => (if x11.length < 8796093022208 then (spec_CsvRow.l0 k x0 x1 x2 x3 x4 (x11 ++ [t135]) (wrap64 (x12 + 1))) else (none))) else (if x11.length < 8796093022208 then (spec_CsvRow.l0 k x0 x1 x2 x3 x4 (x11 ++ [x13]) (wrap64 (x12 + 1))) else (none)))))))
end
def spec_CsvRow.f (k : Nat) (l0 : List ByteArray) (a1 : Int) (a2 : Bool) (a3 : Bool) (a4 : Int) : Option (ByteArray) := spec_CsvRow.l0 k l0 a1 a2 a3 a4 ([] : List ByteArray) 0
theorem spec_CsvRow.mono_l : ∀ k, (∀ y0 y1 y2 y3 y4 y5 y6, LeO (spec_CsvRow.l0 k y0 y1 y2 y3 y4 y5 y6) (spec_CsvRow.l0 (k + 1) y0 y1 y2 y3 y4 y5 y6)) ∧ (∀ y0 y1 y2 y3 y4 y5 y6 y7 y8, LeO (spec_CsvRow.j1 k y0 y1 y2 y3 y4 y5 y6 y7 y8) (spec_CsvRow.j1 (k + 1) y0 y1 y2 y3 y4 y5 y6 y7 y8)) ∧ (∀ y0 y1 y2 y3 y4 y5 y6 y7, LeO (spec_CsvRow.j2 k y0 y1 y2 y3 y4 y5 y6 y7) (spec_CsvRow.j2 (k + 1) y0 y1 y2 y3 y4 y5 y6 y7))
  | 0 => ⟨fun _ _ _ _ _ _ _ r h => by simp [spec_CsvRow.l0] at h, fun _ _ _ _ _ _ _ _ _ r h => by simp [spec_CsvRow.j1] at h, fun _ _ _ _ _ _ _ _ r h => by simp [spec_CsvRow.j2] at h⟩
  | k + 1 => by
    obtain ⟨ih0, ih1, ih2⟩ := spec_CsvRow.mono_l k
    refine ⟨?_, ?_, ?_⟩
    · intro y0 y1 y2 y3 y4 y5 y6
      unfold spec_CsvRow.l0
      repeat' first
      | (with_reducible exact ih0 _ _ _ _ _ _ _)
      | (with_reducible exact ih1 _ _ _ _ _ _ _ _ _)
      | (with_reducible exact ih2 _ _ _ _ _ _ _ _)
      | (with_reducible exact spec_has.mono _ _ _)
      | (with_reducible exact spec_quoted.mono _ _)
      | (with_reducible exact spec_separated.mono _ _ _ _ _ _)
      | (with_reducible exact LeO.refl _)
      | (with_reducible exact LeO.none _)
      | (with_reducible refine LeO.ite ?_ ?_)
      | (with_reducible refine LeO.bind ?_ (fun _ => ?_))
      | exact ih0 _ _ _ _ _ _ _
      | exact ih1 _ _ _ _ _ _ _ _ _
      | exact ih2 _ _ _ _ _ _ _ _
      | exact spec_has.mono _ _ _
      | exact spec_quoted.mono _ _
      | exact spec_separated.mono _ _ _ _ _ _
      | exact LeO.none _
      | refine LeO.ite ?_ ?_
      | refine LeO.bind ?_ (fun _ => ?_)
    · intro y0 y1 y2 y3 y4 y5 y6 y7 y8
      unfold spec_CsvRow.j1
      repeat' first
      | (with_reducible exact ih0 _ _ _ _ _ _ _)
      | (with_reducible exact ih1 _ _ _ _ _ _ _ _ _)
      | (with_reducible exact ih2 _ _ _ _ _ _ _ _)
      | (with_reducible exact spec_has.mono _ _ _)
      | (with_reducible exact spec_quoted.mono _ _)
      | (with_reducible exact spec_separated.mono _ _ _ _ _ _)
      | (with_reducible exact LeO.refl _)
      | (with_reducible exact LeO.none _)
      | (with_reducible refine LeO.ite ?_ ?_)
      | (with_reducible refine LeO.bind ?_ (fun _ => ?_))
      | exact ih0 _ _ _ _ _ _ _
      | exact ih1 _ _ _ _ _ _ _ _ _
      | exact ih2 _ _ _ _ _ _ _ _
      | exact spec_has.mono _ _ _
      | exact spec_quoted.mono _ _
      | exact spec_separated.mono _ _ _ _ _ _
      | exact LeO.none _
      | refine LeO.ite ?_ ?_
      | refine LeO.bind ?_ (fun _ => ?_)
    · intro y0 y1 y2 y3 y4 y5 y6 y7
      unfold spec_CsvRow.j2
      repeat' first
      | (with_reducible exact ih0 _ _ _ _ _ _ _)
      | (with_reducible exact ih1 _ _ _ _ _ _ _ _ _)
      | (with_reducible exact ih2 _ _ _ _ _ _ _ _)
      | (with_reducible exact spec_has.mono _ _ _)
      | (with_reducible exact spec_quoted.mono _ _)
      | (with_reducible exact spec_separated.mono _ _ _ _ _ _)
      | (with_reducible exact LeO.refl _)
      | (with_reducible exact LeO.none _)
      | (with_reducible refine LeO.ite ?_ ?_)
      | (with_reducible refine LeO.bind ?_ (fun _ => ?_))
      | exact ih0 _ _ _ _ _ _ _
      | exact ih1 _ _ _ _ _ _ _ _ _
      | exact ih2 _ _ _ _ _ _ _ _
      | exact spec_has.mono _ _ _
      | exact spec_quoted.mono _ _
      | exact spec_separated.mono _ _ _ _ _ _
      | exact LeO.none _
      | refine LeO.ite ?_ ?_
      | refine LeO.bind ?_ (fun _ => ?_)
theorem spec_CsvRow.mono : ∀ a0 a1 a2 a3 a4 k, LeO (spec_CsvRow.f k a0 a1 a2 a3 a4) (spec_CsvRow.f (k + 1) a0 a1 a2 a3 a4) := by
  intro a0 a1 a2 a3 a4 k
  obtain ⟨ih0, ih1, ih2⟩ := spec_CsvRow.mono_l k
  unfold spec_CsvRow.f
  repeat' first
      | (with_reducible exact ih0 _ _ _ _ _ _ _)
      | (with_reducible exact ih1 _ _ _ _ _ _ _ _ _)
      | (with_reducible exact ih2 _ _ _ _ _ _ _ _)
      | (with_reducible exact spec_has.mono _ _ _)
      | (with_reducible exact spec_quoted.mono _ _)
      | (with_reducible exact spec_separated.mono _ _ _ _ _ _)
      | (with_reducible exact LeO.refl _)
      | (with_reducible exact LeO.none _)
      | (with_reducible refine LeO.ite ?_ ?_)
      | (with_reducible refine LeO.bind ?_ (fun _ => ?_))
      | exact ih0 _ _ _ _ _ _ _
      | exact ih1 _ _ _ _ _ _ _ _ _
      | exact ih2 _ _ _ _ _ _ _ _
      | exact spec_has.mono _ _ _
      | exact spec_quoted.mono _ _
      | exact spec_separated.mono _ _ _ _ _ _
      | exact LeO.none _
      | refine LeO.ite ?_ ?_
      | refine LeO.bind ?_ (fun _ => ?_)
set_option maxHeartbeats 8000000 in
set_option maxRecDepth 100000 in
theorem spec_CsvRow.calls (k : Nat) (A0 : Option Addr) (c0 : Nat) (l0 : List ByteArray) (a1 : Int) (a2 : Bool) (a3 : Bool) (a4 : Int) (r : ByteArray) (w : World) (hr0 : Kd.C Kd.string w A0 l0.length l0) (hc0 : l0.length ≤ c0) (h : spec_CsvRow.f k l0 a1 a2 a3 a4 = some r) :
    Calls Try.prog 40 #[.slice A0 l0.length c0, .int .i64 a1, .bool a2, .bool a3, .int .i64 a4] w fun e w' => e = .returned (.string r) ∧ Below w.heap.size w w' := by
  have HR0 := Aside0.mk hr0
  have HC0 := Aside0.mk hc0
  clear hr0 hc0
  have HB := Aside0.mk (Below.refl w.heap.size w)
  have H : (spec_CsvRow.l0 k l0 a1 a2 a3 a4 ([] : List ByteArray) 0) = some r := h
  clear h
  have H' := Aside0.mk H
  clear H
  go_enter Try.func40, Try.ntmps40
  go_wp2
  go_loopg [11, 12] k (fun kq v11 v12 w' => ∃ (x11_1 : List ByteArray) (x12_1 : Int), v12 = .int .i64 x12_1 ∧ Aside0 (spec_CsvRow.l0 kq l0 a1 a2 a3 a4 x11_1 x12_1 = some r) ∧ Aside0 (kq ≤ k) ∧ Aside0 (Kd.R Kd.string 9 w' w.heap.size (fun _ => True) v11 x11_1) ∧ Aside0 (Below w.heap.size w w'))
  case atStart => exact ⟨(([] : List ByteArray)), (0), (by first | rfl | (simp; done) | (simp [*]; done)), H', ⟨Nat.le_refl _⟩, ⟨by first | exact Kd.R_nil _ _ _ _ _ | exact Kd.N_nil _ _ _ _ _ | exact Kd.V_nil _ _ _ _ _ | exact Kd.Q_nil _ _ _ _ _ | exact Kd.S_nil _ _ _ _ _⟩, ⟨by repeat (first | (with_reducible first | exact HB.out | apply below_alloc | apply pw_below_drewN | apply below_drew1) | exact HB.out)⟩⟩
  case round =>
    clear H'
    try clear p2
    try clear c4
    obtain ⟨x11_1, x12_1, rfl, HA, HK1, HO_11, HB⟩ := hrel
    cases gk with
    | zero => exact absurd HA.out (by simp [spec_CsvRow.l0])
    | succ k1 =>
      have H := HA.out
      clear HA
      simp only [spec_CsvRow.l0] at H
      by_cases c6 : x12_1 < (l0.length : Int)
      · rw [if_pos c6] at H
        have c6b0 : decide (x12_1 < (l0.length : Int)) = true := decide_eq_true c6
        clear c6
        by_cases c7 : 0 ≤ x12_1
        · rw [if_pos c7] at H
          have c7b0 : decide (0 ≤ x12_1) = true := decide_eq_true c7
          clear c7
          have HC8 := Aside0.mk H
          clear H
          have p123 : 0 ≤ (x12_1 : Int) := of_decide_eq_true (by first | (with_reducible assumption) | assumption)
          have q123 : x12_1 < (l0.length : Int) := of_decide_eq_true (by first | (with_reducible assumption) | assumption)
          obtain ⟨ad123, e123, hx123_0⟩ := Kd.at_string HR0.out x12_1 p123 q123
          cases e123
          replace hx123_0 := (HB.out.cell (World.block_lt_of_cell? w _ hx123_0)).trans hx123_0
          replace p123 := eq_true p123
          replace q123 := eq_true q123
          go_upto_region 6 with (fail)
          go_cut [58] (fun v58 wc => ∃ (kq : Nat) (x58_7 : Bool), v58 = .bool x58_7 ∧ Aside0 (spec_CsvRow.j1 kq l0 a1 a2 a3 a4 x11_1 x12_1 (rdOf ByteArray.empty l0 x12_1) x58_7 = some r) ∧ Aside0 (kq ≤ k1) ∧ Aside0 (Kd.R Kd.string 9 wc w.heap.size (fun _ => True) u11 x11_1) ∧ Aside0 (Below w.heap.size w wc))
          case first =>
            have H := HC8.out
            clear HC8
            by_cases c9 : a2 = true
            · subst c9
              have H1 : (if (rdOf ByteArray.empty l0 x12_1).toList = ([] : List UInt8) then (spec_CsvRow.j1 k1 l0 a1 true a3 a4 x11_1 x12_1 (rdOf ByteArray.empty l0 x12_1) false) else (if 0 < ((rdOf ByteArray.empty l0 x12_1).size : Int) then (if (bt (rdOf ByteArray.empty l0 x12_1) 0) = 61 then (spec_CsvRow.j1 k1 l0 a1 true a3 a4 x11_1 x12_1 (rdOf ByteArray.empty l0 x12_1) true) else (if (bt (rdOf ByteArray.empty l0 x12_1) 0) = 43 then (spec_CsvRow.j1 k1 l0 a1 true a3 a4 x11_1 x12_1 (rdOf ByteArray.empty l0 x12_1) true) else (if (bt (rdOf ByteArray.empty l0 x12_1) 0) = 45 then (spec_CsvRow.j1 k1 l0 a1 true a3 a4 x11_1 x12_1 (rdOf ByteArray.empty l0 x12_1) true) else (if (bt (rdOf ByteArray.empty l0 x12_1) 0) = 64 then (spec_CsvRow.j1 k1 l0 a1 true a3 a4 x11_1 x12_1 (rdOf ByteArray.empty l0 x12_1) true) else (if (bt (rdOf ByteArray.empty l0 x12_1) 0) = 9 then (spec_CsvRow.j1 k1 l0 a1 true a3 a4 x11_1 x12_1 (rdOf ByteArray.empty l0 x12_1) true) else (spec_CsvRow.j1 k1 l0 a1 true a3 a4 x11_1 x12_1 (rdOf ByteArray.empty l0 x12_1) ((bt (rdOf ByteArray.empty l0 x12_1) 0) == 13))))))) else (none))) = some r := by rw [if_pos rfl] at H; exact H
              clear H
              have H := H1
              clear H1
              by_cases c10 : (rdOf ByteArray.empty l0 x12_1).toList = ([] : List UInt8)
              · rw [if_pos c10] at H
                have c10b0 : ((rdOf ByteArray.empty l0 x12_1).toList == ([] : List UInt8)) = true := beq_iff_eq.mpr c10
                have c10b1 : ((rdOf ByteArray.empty l0 x12_1).toList != ([] : List UInt8)) = false := bne_eq_false_iff_eq.mpr c10
                clear c10
                (first | rw [c10b0] | (simp only [i64_w, i32_w]; rw [c10b0]) | skip)
                have H' := Aside0.mk H
                clear H
                go_wp2
                go_meet
                case rel => exact ⟨_, (false), (by first | rfl | (simp; done) | (simp [*]; done)), H', ⟨by have := HK1.out; first | omega | exact Nat.le_refl _⟩, ⟨by (with_reducible repeat (first | apply Kd.R_alloc | apply Kd.R_drewN | apply Kd.R_drew)); exact HO_11.out⟩, ⟨by repeat (first | (with_reducible first | exact HB.out | apply below_alloc | apply pw_below_drewN | apply below_drew1) | exact HB.out)⟩⟩
              · rw [if_neg c10] at H
                have c10b0 : ((rdOf ByteArray.empty l0 x12_1).toList == ([] : List UInt8)) = false := beq_eq_false_iff_ne.mpr c10
                have c10b1 : ((rdOf ByteArray.empty l0 x12_1).toList != ([] : List UInt8)) = true := bne_iff_ne.mpr c10
                (first | rw [c10b0] | (simp only [i64_w, i32_w]; rw [c10b0]) | skip)
                by_cases c11 : 0 < ((rdOf ByteArray.empty l0 x12_1).size : Int)
                · rw [if_pos c11] at H
                  have c11b0 : decide (0 < ((rdOf ByteArray.empty l0 x12_1).size : Int)) = true := decide_eq_true c11
                  have c11b1 : decide (0 < (rdOf ByteArray.empty l0 x12_1).size) = true := decide_eq_true (by omega)
                  clear c11
                  by_cases c13 : (bt (rdOf ByteArray.empty l0 x12_1) 0) = 61
                  · rw [if_pos c13] at H
                    have c13b0 : ((bt (rdOf ByteArray.empty l0 x12_1) 0) == 61) = true := beq_iff_eq.mpr c13
                    have c13b1 : ((bt (rdOf ByteArray.empty l0 x12_1) 0) != 61) = false := bne_eq_false_iff_eq.mpr c13
                    clear c13
                    have H' := Aside0.mk H
                    clear H
                    have p12 : 0 ≤ (0 : Int) := (by omega)
                    have q12 : 0 < (rdOf ByteArray.empty l0 x12_1).size := (by have : (0 : Int) < ((rdOf ByteArray.empty l0 x12_1).size : Int) := of_decide_eq_true (by first | (with_reducible assumption) | assumption); omega)
                    have hx12 : ∀ h : 0 < (rdOf ByteArray.empty l0 x12_1).size, (((rdOf ByteArray.empty l0 x12_1)[0]'h).toNat : Int) = bt (rdOf ByteArray.empty l0 x12_1) 0 := bt_at (rdOf ByteArray.empty l0 x12_1) 0
                    clear p12
                    have qi12 : (0 < ((rdOf ByteArray.empty l0 x12_1).size : Int)) = True := eq_true (of_decide_eq_true (by first | (with_reducible assumption) | assumption))
                    replace q12 := eq_true q12
                    go_wp2
                    go_meet
                    case rel => exact ⟨_, (true), (by first | rfl | (simp; done) | (simp [*]; done)), H', ⟨by have := HK1.out; first | omega | exact Nat.le_refl _⟩, ⟨by (with_reducible repeat (first | apply Kd.R_alloc | apply Kd.R_drewN | apply Kd.R_drew)); exact HO_11.out⟩, ⟨by repeat (first | (with_reducible first | exact HB.out | apply below_alloc | apply pw_below_drewN | apply below_drew1) | exact HB.out)⟩⟩
                  · rw [if_neg c13] at H
                    have c13b0 : ((bt (rdOf ByteArray.empty l0 x12_1) 0) == 61) = false := beq_eq_false_iff_ne.mpr c13
                    have c13b1 : ((bt (rdOf ByteArray.empty l0 x12_1) 0) != 61) = true := bne_iff_ne.mpr c13
                    by_cases c15 : (bt (rdOf ByteArray.empty l0 x12_1) 0) = 43
                    · rw [if_pos c15] at H
                      have c15b0 : ((bt (rdOf ByteArray.empty l0 x12_1) 0) == 43) = true := beq_iff_eq.mpr c15
                      have c15b1 : ((bt (rdOf ByteArray.empty l0 x12_1) 0) != 43) = false := bne_eq_false_iff_eq.mpr c15
                      clear c15
                      have H' := Aside0.mk H
                      clear H
                      have p12 : 0 ≤ (0 : Int) := (by omega)
                      have q12 : 0 < (rdOf ByteArray.empty l0 x12_1).size := (by have : (0 : Int) < ((rdOf ByteArray.empty l0 x12_1).size : Int) := of_decide_eq_true (by first | (with_reducible assumption) | assumption); omega)
                      have hx12 : ∀ h : 0 < (rdOf ByteArray.empty l0 x12_1).size, (((rdOf ByteArray.empty l0 x12_1)[0]'h).toNat : Int) = bt (rdOf ByteArray.empty l0 x12_1) 0 := bt_at (rdOf ByteArray.empty l0 x12_1) 0
                      clear p12
                      have qi12 : (0 < ((rdOf ByteArray.empty l0 x12_1).size : Int)) = True := eq_true (of_decide_eq_true (by first | (with_reducible assumption) | assumption))
                      replace q12 := eq_true q12
                      have p14 : 0 ≤ (0 : Int) := (by omega)
                      have q14 : 0 < (rdOf ByteArray.empty l0 x12_1).size := (by have : (0 : Int) < ((rdOf ByteArray.empty l0 x12_1).size : Int) := of_decide_eq_true (by first | (with_reducible assumption) | assumption); omega)
                      have hx14 : ∀ h : 0 < (rdOf ByteArray.empty l0 x12_1).size, (((rdOf ByteArray.empty l0 x12_1)[0]'h).toNat : Int) = bt (rdOf ByteArray.empty l0 x12_1) 0 := bt_at (rdOf ByteArray.empty l0 x12_1) 0
                      clear p14
                      have qi14 : (0 < ((rdOf ByteArray.empty l0 x12_1).size : Int)) = True := eq_true (of_decide_eq_true (by first | (with_reducible assumption) | assumption))
                      replace q14 := eq_true q14
                      go_wp2
                      go_meet
                      case rel => exact ⟨_, (true), (by first | rfl | (simp; done) | (simp [*]; done)), H', ⟨by have := HK1.out; first | omega | exact Nat.le_refl _⟩, ⟨by (with_reducible repeat (first | apply Kd.R_alloc | apply Kd.R_drewN | apply Kd.R_drew)); exact HO_11.out⟩, ⟨by repeat (first | (with_reducible first | exact HB.out | apply below_alloc | apply pw_below_drewN | apply below_drew1) | exact HB.out)⟩⟩
                    · rw [if_neg c15] at H
                      have c15b0 : ((bt (rdOf ByteArray.empty l0 x12_1) 0) == 43) = false := beq_eq_false_iff_ne.mpr c15
                      have c15b1 : ((bt (rdOf ByteArray.empty l0 x12_1) 0) != 43) = true := bne_iff_ne.mpr c15
                      by_cases c17 : (bt (rdOf ByteArray.empty l0 x12_1) 0) = 45
                      · rw [if_pos c17] at H
                        have c17b0 : ((bt (rdOf ByteArray.empty l0 x12_1) 0) == 45) = true := beq_iff_eq.mpr c17
                        have c17b1 : ((bt (rdOf ByteArray.empty l0 x12_1) 0) != 45) = false := bne_eq_false_iff_eq.mpr c17
                        clear c17
                        have H' := Aside0.mk H
                        clear H
                        have p12 : 0 ≤ (0 : Int) := (by omega)
                        have q12 : 0 < (rdOf ByteArray.empty l0 x12_1).size := (by have : (0 : Int) < ((rdOf ByteArray.empty l0 x12_1).size : Int) := of_decide_eq_true (by first | (with_reducible assumption) | assumption); omega)
                        have hx12 : ∀ h : 0 < (rdOf ByteArray.empty l0 x12_1).size, (((rdOf ByteArray.empty l0 x12_1)[0]'h).toNat : Int) = bt (rdOf ByteArray.empty l0 x12_1) 0 := bt_at (rdOf ByteArray.empty l0 x12_1) 0
                        clear p12
                        have qi12 : (0 < ((rdOf ByteArray.empty l0 x12_1).size : Int)) = True := eq_true (of_decide_eq_true (by first | (with_reducible assumption) | assumption))
                        replace q12 := eq_true q12
                        have p14 : 0 ≤ (0 : Int) := (by omega)
                        have q14 : 0 < (rdOf ByteArray.empty l0 x12_1).size := (by have : (0 : Int) < ((rdOf ByteArray.empty l0 x12_1).size : Int) := of_decide_eq_true (by first | (with_reducible assumption) | assumption); omega)
                        have hx14 : ∀ h : 0 < (rdOf ByteArray.empty l0 x12_1).size, (((rdOf ByteArray.empty l0 x12_1)[0]'h).toNat : Int) = bt (rdOf ByteArray.empty l0 x12_1) 0 := bt_at (rdOf ByteArray.empty l0 x12_1) 0
                        clear p14
                        have qi14 : (0 < ((rdOf ByteArray.empty l0 x12_1).size : Int)) = True := eq_true (of_decide_eq_true (by first | (with_reducible assumption) | assumption))
                        replace q14 := eq_true q14
                        have p16 : 0 ≤ (0 : Int) := (by omega)
                        have q16 : 0 < (rdOf ByteArray.empty l0 x12_1).size := (by have : (0 : Int) < ((rdOf ByteArray.empty l0 x12_1).size : Int) := of_decide_eq_true (by first | (with_reducible assumption) | assumption); omega)
                        have hx16 : ∀ h : 0 < (rdOf ByteArray.empty l0 x12_1).size, (((rdOf ByteArray.empty l0 x12_1)[0]'h).toNat : Int) = bt (rdOf ByteArray.empty l0 x12_1) 0 := bt_at (rdOf ByteArray.empty l0 x12_1) 0
                        clear p16
                        have qi16 : (0 < ((rdOf ByteArray.empty l0 x12_1).size : Int)) = True := eq_true (of_decide_eq_true (by first | (with_reducible assumption) | assumption))
                        replace q16 := eq_true q16
                        go_wp2
                        go_meet
                        case rel => exact ⟨_, (true), (by first | rfl | (simp; done) | (simp [*]; done)), H', ⟨by have := HK1.out; first | omega | exact Nat.le_refl _⟩, ⟨by (with_reducible repeat (first | apply Kd.R_alloc | apply Kd.R_drewN | apply Kd.R_drew)); exact HO_11.out⟩, ⟨by repeat (first | (with_reducible first | exact HB.out | apply below_alloc | apply pw_below_drewN | apply below_drew1) | exact HB.out)⟩⟩
                      · rw [if_neg c17] at H
                        have c17b0 : ((bt (rdOf ByteArray.empty l0 x12_1) 0) == 45) = false := beq_eq_false_iff_ne.mpr c17
                        have c17b1 : ((bt (rdOf ByteArray.empty l0 x12_1) 0) != 45) = true := bne_iff_ne.mpr c17
                        by_cases c19 : (bt (rdOf ByteArray.empty l0 x12_1) 0) = 64
                        · rw [if_pos c19] at H
                          have c19b0 : ((bt (rdOf ByteArray.empty l0 x12_1) 0) == 64) = true := beq_iff_eq.mpr c19
                          have c19b1 : ((bt (rdOf ByteArray.empty l0 x12_1) 0) != 64) = false := bne_eq_false_iff_eq.mpr c19
                          clear c19
                          have H' := Aside0.mk H
                          clear H
                          have p12 : 0 ≤ (0 : Int) := (by omega)
                          have q12 : 0 < (rdOf ByteArray.empty l0 x12_1).size := (by have : (0 : Int) < ((rdOf ByteArray.empty l0 x12_1).size : Int) := of_decide_eq_true (by first | (with_reducible assumption) | assumption); omega)
                          have hx12 : ∀ h : 0 < (rdOf ByteArray.empty l0 x12_1).size, (((rdOf ByteArray.empty l0 x12_1)[0]'h).toNat : Int) = bt (rdOf ByteArray.empty l0 x12_1) 0 := bt_at (rdOf ByteArray.empty l0 x12_1) 0
                          clear p12
                          have qi12 : (0 < ((rdOf ByteArray.empty l0 x12_1).size : Int)) = True := eq_true (of_decide_eq_true (by first | (with_reducible assumption) | assumption))
                          replace q12 := eq_true q12
                          have p14 : 0 ≤ (0 : Int) := (by omega)
                          have q14 : 0 < (rdOf ByteArray.empty l0 x12_1).size := (by have : (0 : Int) < ((rdOf ByteArray.empty l0 x12_1).size : Int) := of_decide_eq_true (by first | (with_reducible assumption) | assumption); omega)
                          have hx14 : ∀ h : 0 < (rdOf ByteArray.empty l0 x12_1).size, (((rdOf ByteArray.empty l0 x12_1)[0]'h).toNat : Int) = bt (rdOf ByteArray.empty l0 x12_1) 0 := bt_at (rdOf ByteArray.empty l0 x12_1) 0
                          clear p14
                          have qi14 : (0 < ((rdOf ByteArray.empty l0 x12_1).size : Int)) = True := eq_true (of_decide_eq_true (by first | (with_reducible assumption) | assumption))
                          replace q14 := eq_true q14
                          have p16 : 0 ≤ (0 : Int) := (by omega)
                          have q16 : 0 < (rdOf ByteArray.empty l0 x12_1).size := (by have : (0 : Int) < ((rdOf ByteArray.empty l0 x12_1).size : Int) := of_decide_eq_true (by first | (with_reducible assumption) | assumption); omega)
                          have hx16 : ∀ h : 0 < (rdOf ByteArray.empty l0 x12_1).size, (((rdOf ByteArray.empty l0 x12_1)[0]'h).toNat : Int) = bt (rdOf ByteArray.empty l0 x12_1) 0 := bt_at (rdOf ByteArray.empty l0 x12_1) 0
                          clear p16
                          have qi16 : (0 < ((rdOf ByteArray.empty l0 x12_1).size : Int)) = True := eq_true (of_decide_eq_true (by first | (with_reducible assumption) | assumption))
                          replace q16 := eq_true q16
                          have p18 : 0 ≤ (0 : Int) := (by omega)
                          have q18 : 0 < (rdOf ByteArray.empty l0 x12_1).size := (by have : (0 : Int) < ((rdOf ByteArray.empty l0 x12_1).size : Int) := of_decide_eq_true (by first | (with_reducible assumption) | assumption); omega)
                          have hx18 : ∀ h : 0 < (rdOf ByteArray.empty l0 x12_1).size, (((rdOf ByteArray.empty l0 x12_1)[0]'h).toNat : Int) = bt (rdOf ByteArray.empty l0 x12_1) 0 := bt_at (rdOf ByteArray.empty l0 x12_1) 0
                          clear p18
                          have qi18 : (0 < ((rdOf ByteArray.empty l0 x12_1).size : Int)) = True := eq_true (of_decide_eq_true (by first | (with_reducible assumption) | assumption))
                          replace q18 := eq_true q18
                          go_wp2
                          go_meet
                          case rel => exact ⟨_, (true), (by first | rfl | (simp; done) | (simp [*]; done)), H', ⟨by have := HK1.out; first | omega | exact Nat.le_refl _⟩, ⟨by (with_reducible repeat (first | apply Kd.R_alloc | apply Kd.R_drewN | apply Kd.R_drew)); exact HO_11.out⟩, ⟨by repeat (first | (with_reducible first | exact HB.out | apply below_alloc | apply pw_below_drewN | apply below_drew1) | exact HB.out)⟩⟩
                        · rw [if_neg c19] at H
                          have c19b0 : ((bt (rdOf ByteArray.empty l0 x12_1) 0) == 64) = false := beq_eq_false_iff_ne.mpr c19
                          have c19b1 : ((bt (rdOf ByteArray.empty l0 x12_1) 0) != 64) = true := bne_iff_ne.mpr c19
                          by_cases c21 : (bt (rdOf ByteArray.empty l0 x12_1) 0) = 9
                          · rw [if_pos c21] at H
                            have c21b0 : ((bt (rdOf ByteArray.empty l0 x12_1) 0) == 9) = true := beq_iff_eq.mpr c21
                            have c21b1 : ((bt (rdOf ByteArray.empty l0 x12_1) 0) != 9) = false := bne_eq_false_iff_eq.mpr c21
                            clear c21
                            have H' := Aside0.mk H
                            clear H
                            have p12 : 0 ≤ (0 : Int) := (by omega)
                            have q12 : 0 < (rdOf ByteArray.empty l0 x12_1).size := (by have : (0 : Int) < ((rdOf ByteArray.empty l0 x12_1).size : Int) := of_decide_eq_true (by first | (with_reducible assumption) | assumption); omega)
                            have hx12 : ∀ h : 0 < (rdOf ByteArray.empty l0 x12_1).size, (((rdOf ByteArray.empty l0 x12_1)[0]'h).toNat : Int) = bt (rdOf ByteArray.empty l0 x12_1) 0 := bt_at (rdOf ByteArray.empty l0 x12_1) 0
                            clear p12
                            have qi12 : (0 < ((rdOf ByteArray.empty l0 x12_1).size : Int)) = True := eq_true (of_decide_eq_true (by first | (with_reducible assumption) | assumption))
                            replace q12 := eq_true q12
                            have p14 : 0 ≤ (0 : Int) := (by omega)
                            have q14 : 0 < (rdOf ByteArray.empty l0 x12_1).size := (by have : (0 : Int) < ((rdOf ByteArray.empty l0 x12_1).size : Int) := of_decide_eq_true (by first | (with_reducible assumption) | assumption); omega)
                            have hx14 : ∀ h : 0 < (rdOf ByteArray.empty l0 x12_1).size, (((rdOf ByteArray.empty l0 x12_1)[0]'h).toNat : Int) = bt (rdOf ByteArray.empty l0 x12_1) 0 := bt_at (rdOf ByteArray.empty l0 x12_1) 0
                            clear p14
                            have qi14 : (0 < ((rdOf ByteArray.empty l0 x12_1).size : Int)) = True := eq_true (of_decide_eq_true (by first | (with_reducible assumption) | assumption))
                            replace q14 := eq_true q14
                            have p16 : 0 ≤ (0 : Int) := (by omega)
                            have q16 : 0 < (rdOf ByteArray.empty l0 x12_1).size := (by have : (0 : Int) < ((rdOf ByteArray.empty l0 x12_1).size : Int) := of_decide_eq_true (by first | (with_reducible assumption) | assumption); omega)
                            have hx16 : ∀ h : 0 < (rdOf ByteArray.empty l0 x12_1).size, (((rdOf ByteArray.empty l0 x12_1)[0]'h).toNat : Int) = bt (rdOf ByteArray.empty l0 x12_1) 0 := bt_at (rdOf ByteArray.empty l0 x12_1) 0
                            clear p16
                            have qi16 : (0 < ((rdOf ByteArray.empty l0 x12_1).size : Int)) = True := eq_true (of_decide_eq_true (by first | (with_reducible assumption) | assumption))
                            replace q16 := eq_true q16
                            have p18 : 0 ≤ (0 : Int) := (by omega)
                            have q18 : 0 < (rdOf ByteArray.empty l0 x12_1).size := (by have : (0 : Int) < ((rdOf ByteArray.empty l0 x12_1).size : Int) := of_decide_eq_true (by first | (with_reducible assumption) | assumption); omega)
                            have hx18 : ∀ h : 0 < (rdOf ByteArray.empty l0 x12_1).size, (((rdOf ByteArray.empty l0 x12_1)[0]'h).toNat : Int) = bt (rdOf ByteArray.empty l0 x12_1) 0 := bt_at (rdOf ByteArray.empty l0 x12_1) 0
                            clear p18
                            have qi18 : (0 < ((rdOf ByteArray.empty l0 x12_1).size : Int)) = True := eq_true (of_decide_eq_true (by first | (with_reducible assumption) | assumption))
                            replace q18 := eq_true q18
                            have p20 : 0 ≤ (0 : Int) := (by omega)
                            have q20 : 0 < (rdOf ByteArray.empty l0 x12_1).size := (by have : (0 : Int) < ((rdOf ByteArray.empty l0 x12_1).size : Int) := of_decide_eq_true (by first | (with_reducible assumption) | assumption); omega)
                            have hx20 : ∀ h : 0 < (rdOf ByteArray.empty l0 x12_1).size, (((rdOf ByteArray.empty l0 x12_1)[0]'h).toNat : Int) = bt (rdOf ByteArray.empty l0 x12_1) 0 := bt_at (rdOf ByteArray.empty l0 x12_1) 0
                            clear p20
                            have qi20 : (0 < ((rdOf ByteArray.empty l0 x12_1).size : Int)) = True := eq_true (of_decide_eq_true (by first | (with_reducible assumption) | assumption))
                            replace q20 := eq_true q20
                            go_wp2
                            go_meet
                            case rel => exact ⟨_, (true), (by first | rfl | (simp; done) | (simp [*]; done)), H', ⟨by have := HK1.out; first | omega | exact Nat.le_refl _⟩, ⟨by (with_reducible repeat (first | apply Kd.R_alloc | apply Kd.R_drewN | apply Kd.R_drew)); exact HO_11.out⟩, ⟨by repeat (first | (with_reducible first | exact HB.out | apply below_alloc | apply pw_below_drewN | apply below_drew1) | exact HB.out)⟩⟩
                          · rw [if_neg c21] at H
                            have c21b0 : ((bt (rdOf ByteArray.empty l0 x12_1) 0) == 9) = false := beq_eq_false_iff_ne.mpr c21
                            have c21b1 : ((bt (rdOf ByteArray.empty l0 x12_1) 0) != 9) = true := bne_iff_ne.mpr c21
                            have H' := Aside0.mk H
                            clear H
                            have p12 : 0 ≤ (0 : Int) := (by omega)
                            have q12 : 0 < (rdOf ByteArray.empty l0 x12_1).size := (by have : (0 : Int) < ((rdOf ByteArray.empty l0 x12_1).size : Int) := of_decide_eq_true (by first | (with_reducible assumption) | assumption); omega)
                            have hx12 : ∀ h : 0 < (rdOf ByteArray.empty l0 x12_1).size, (((rdOf ByteArray.empty l0 x12_1)[0]'h).toNat : Int) = bt (rdOf ByteArray.empty l0 x12_1) 0 := bt_at (rdOf ByteArray.empty l0 x12_1) 0
                            clear p12
                            have qi12 : (0 < ((rdOf ByteArray.empty l0 x12_1).size : Int)) = True := eq_true (of_decide_eq_true (by first | (with_reducible assumption) | assumption))
                            replace q12 := eq_true q12
                            have p14 : 0 ≤ (0 : Int) := (by omega)
                            have q14 : 0 < (rdOf ByteArray.empty l0 x12_1).size := (by have : (0 : Int) < ((rdOf ByteArray.empty l0 x12_1).size : Int) := of_decide_eq_true (by first | (with_reducible assumption) | assumption); omega)
                            have hx14 : ∀ h : 0 < (rdOf ByteArray.empty l0 x12_1).size, (((rdOf ByteArray.empty l0 x12_1)[0]'h).toNat : Int) = bt (rdOf ByteArray.empty l0 x12_1) 0 := bt_at (rdOf ByteArray.empty l0 x12_1) 0
                            clear p14
                            have qi14 : (0 < ((rdOf ByteArray.empty l0 x12_1).size : Int)) = True := eq_true (of_decide_eq_true (by first | (with_reducible assumption) | assumption))
                            replace q14 := eq_true q14
                            have p16 : 0 ≤ (0 : Int) := (by omega)
                            have q16 : 0 < (rdOf ByteArray.empty l0 x12_1).size := (by have : (0 : Int) < ((rdOf ByteArray.empty l0 x12_1).size : Int) := of_decide_eq_true (by first | (with_reducible assumption) | assumption); omega)
                            have hx16 : ∀ h : 0 < (rdOf ByteArray.empty l0 x12_1).size, (((rdOf ByteArray.empty l0 x12_1)[0]'h).toNat : Int) = bt (rdOf ByteArray.empty l0 x12_1) 0 := bt_at (rdOf ByteArray.empty l0 x12_1) 0
                            clear p16
                            have qi16 : (0 < ((rdOf ByteArray.empty l0 x12_1).size : Int)) = True := eq_true (of_decide_eq_true (by first | (with_reducible assumption) | assumption))
                            replace q16 := eq_true q16
                            have p18 : 0 ≤ (0 : Int) := (by omega)
                            have q18 : 0 < (rdOf ByteArray.empty l0 x12_1).size := (by have : (0 : Int) < ((rdOf ByteArray.empty l0 x12_1).size : Int) := of_decide_eq_true (by first | (with_reducible assumption) | assumption); omega)
                            have hx18 : ∀ h : 0 < (rdOf ByteArray.empty l0 x12_1).size, (((rdOf ByteArray.empty l0 x12_1)[0]'h).toNat : Int) = bt (rdOf ByteArray.empty l0 x12_1) 0 := bt_at (rdOf ByteArray.empty l0 x12_1) 0
                            clear p18
                            have qi18 : (0 < ((rdOf ByteArray.empty l0 x12_1).size : Int)) = True := eq_true (of_decide_eq_true (by first | (with_reducible assumption) | assumption))
                            replace q18 := eq_true q18
                            have p20 : 0 ≤ (0 : Int) := (by omega)
                            have q20 : 0 < (rdOf ByteArray.empty l0 x12_1).size := (by have : (0 : Int) < ((rdOf ByteArray.empty l0 x12_1).size : Int) := of_decide_eq_true (by first | (with_reducible assumption) | assumption); omega)
                            have hx20 : ∀ h : 0 < (rdOf ByteArray.empty l0 x12_1).size, (((rdOf ByteArray.empty l0 x12_1)[0]'h).toNat : Int) = bt (rdOf ByteArray.empty l0 x12_1) 0 := bt_at (rdOf ByteArray.empty l0 x12_1) 0
                            clear p20
                            have qi20 : (0 < ((rdOf ByteArray.empty l0 x12_1).size : Int)) = True := eq_true (of_decide_eq_true (by first | (with_reducible assumption) | assumption))
                            replace q20 := eq_true q20
                            have p22 : 0 ≤ (0 : Int) := (by omega)
                            have q22 : 0 < (rdOf ByteArray.empty l0 x12_1).size := (by have : (0 : Int) < ((rdOf ByteArray.empty l0 x12_1).size : Int) := of_decide_eq_true (by first | (with_reducible assumption) | assumption); omega)
                            have hx22 : ∀ h : 0 < (rdOf ByteArray.empty l0 x12_1).size, (((rdOf ByteArray.empty l0 x12_1)[0]'h).toNat : Int) = bt (rdOf ByteArray.empty l0 x12_1) 0 := bt_at (rdOf ByteArray.empty l0 x12_1) 0
                            clear p22
                            have qi22 : (0 < ((rdOf ByteArray.empty l0 x12_1).size : Int)) = True := eq_true (of_decide_eq_true (by first | (with_reducible assumption) | assumption))
                            replace q22 := eq_true q22
                            go_wp2
                            go_meet
                            case rel => exact ⟨_, (((bt (rdOf ByteArray.empty l0 x12_1) 0) == 13)), (by first | rfl | (simp; done) | (simp [*]; done)), H', ⟨by have := HK1.out; first | omega | exact Nat.le_refl _⟩, ⟨by (with_reducible repeat (first | apply Kd.R_alloc | apply Kd.R_drewN | apply Kd.R_drew)); exact HO_11.out⟩, ⟨by repeat (first | (with_reducible first | exact HB.out | apply below_alloc | apply pw_below_drewN | apply below_drew1) | exact HB.out)⟩⟩
                · rw [if_neg c11] at H
                  exact absurd H (by simp)
            · replace c9 := Bool.eq_false_iff.mpr c9
              subst c9
              have H1 : (spec_CsvRow.j1 k1 l0 a1 false a3 a4 x11_1 x12_1 (rdOf ByteArray.empty l0 x12_1) false) = some r := by rw [if_neg (show ¬ (false = true) by decide)] at H; exact H
              clear H
              have H := H1
              clear H1
              have H' := Aside0.mk H
              clear H
              go_wp2
              go_meet
              case rel => exact ⟨_, (false), (by first | rfl | (simp; done) | (simp [*]; done)), H', ⟨by have := HK1.out; first | omega | exact Nat.le_refl _⟩, ⟨by (with_reducible repeat (first | apply Kd.R_alloc | apply Kd.R_drewN | apply Kd.R_drew)); exact HO_11.out⟩, ⟨by repeat (first | (with_reducible first | exact HB.out | apply below_alloc | apply pw_below_drewN | apply below_drew1) | exact HB.out)⟩⟩
          case rest =>
            clear HC8
            try clear c1
            try clear p1
            try clear q1
            try clear hx1
            try clear qi1
            try clear c2
            try clear p2
            try clear q2
            try clear hx2
            try clear qi2
            try clear c4
            try clear c6
            try clear c6b0
            try clear c7
            try clear c7b0
            try clear c9
            try clear c10
            try clear c10b0
            try clear c10b1
            try clear c11
            try clear c11b0
            try clear c11b1
            try clear p12
            try clear q12
            try clear hx12
            try clear qi12
            try clear c13
            try clear c13b0
            try clear c13b1
            try clear p14
            try clear q14
            try clear hx14
            try clear qi14
            try clear c15
            try clear c15b0
            try clear c15b1
            try clear p16
            try clear q16
            try clear hx16
            try clear qi16
            try clear c17
            try clear c17b0
            try clear c17b1
            try clear p18
            try clear q18
            try clear hx18
            try clear qi18
            try clear c19
            try clear c19b0
            try clear c19b1
            try clear p20
            try clear q20
            try clear hx20
            try clear qi20
            try clear c21
            try clear c21b0
            try clear c21b1
            try clear p22
            try clear q22
            try clear hx22
            try clear qi22
            try clear hx123_0
            try clear p12
            try clear p123
            try clear p14
            try clear p16
            try clear p18
            try clear p2
            try clear p20
            try clear p22
            try clear q12
            try clear q123
            try clear q14
            try clear q16
            try clear q18
            try clear q20
            try clear q22
            obtain ⟨kq, x58_7, rfl, HA, HJ7, HO_11, HB⟩ := hcut
            cases kq with
            | zero => exact absurd HA.out (by simp [spec_CsvRow.j1])
            | succ kj7 =>
              have H := HA.out
              clear HA
              simp only [spec_CsvRow.j1] at H
              have HC23 := Aside0.mk H
              clear H
              go_upto_if 58 with (fail)
              go_cut [13] (fun v13 wc => ∃ (kq : Nat) (x13_22 : ByteArray), v13 = .string x13_22 ∧ Aside0 (spec_CsvRow.j2 kq l0 a1 a2 a3 a4 x11_1 x12_1 x13_22 = some r) ∧ Aside0 (kq ≤ kj7) ∧ Aside0 (Kd.R Kd.string 9 wc w.heap.size (fun _ => True) u11 x11_1) ∧ Aside0 (Below w.heap.size w wc))
              case first =>
                have H := HC23.out
                clear HC23
                by_cases c24 : x58_7 = true
                · subst c24
                  have H1 : (if 1 + (rdOf ByteArray.empty l0 x12_1).size ≤ 9223372036854775807 then (spec_CsvRow.j2 kj7 l0 a1 a2 a3 a4 x11_1 x12_1 ((⟨#[39]⟩ : ByteArray) ++ (rdOf ByteArray.empty l0 x12_1))) else (none)) = some r := by rw [if_pos rfl] at H; exact H
                  clear H
                  have H := H1
                  clear H1
                  by_cases c25 : 1 + (rdOf ByteArray.empty l0 x12_1).size ≤ 9223372036854775807
                  · rw [if_pos c25] at H
                    have c25b0 := eq_true c25
                    have c25b1 : decide (1 + (rdOf ByteArray.empty l0 x12_1).size ≤ 9223372036854775807) = true := decide_eq_true c25
                    try have c25b2 : (9223372036854775807 < 1 + (rdOf ByteArray.empty l0 x12_1).size) = False := eq_false (Nat.not_lt.2 c25)
                    have H' := Aside0.mk H
                    clear H
                    go_wp2
                    go_meet
                    case rel => exact ⟨_, ((⟨#[39]⟩ : ByteArray) ++ (rdOf ByteArray.empty l0 x12_1)), (by first | rfl | (simp; done) | (simp [*]; done)), H', ⟨by have := HK1.out; have := HJ7.out; first | omega | exact Nat.le_refl _⟩, ⟨by (with_reducible repeat (first | apply Kd.R_alloc | apply Kd.R_drewN | apply Kd.R_drew)); exact HO_11.out⟩, ⟨by repeat (first | (with_reducible first | exact HB.out | apply below_alloc | apply pw_below_drewN | apply below_drew1) | exact HB.out)⟩⟩
                  · rw [if_neg c25] at H
                    exact absurd H (by simp)
                · replace c24 := Bool.eq_false_iff.mpr c24
                  subst c24
                  have H1 : (spec_CsvRow.j2 kj7 l0 a1 a2 a3 a4 x11_1 x12_1 (rdOf ByteArray.empty l0 x12_1)) = some r := by rw [if_neg (show ¬ (false = true) by decide)] at H; exact H
                  clear H
                  have H := H1
                  clear H1
                  have H' := Aside0.mk H
                  clear H
                  go_wp2
                  go_meet
                  case rel => exact ⟨_, ((rdOf ByteArray.empty l0 x12_1)), (by first | rfl | (simp; done) | (simp [*]; done)), H', ⟨by have := HK1.out; have := HJ7.out; first | omega | exact Nat.le_refl _⟩, ⟨by (with_reducible repeat (first | apply Kd.R_alloc | apply Kd.R_drewN | apply Kd.R_drew)); exact HO_11.out⟩, ⟨by repeat (first | (with_reducible first | exact HB.out | apply below_alloc | apply pw_below_drewN | apply below_drew1) | exact HB.out)⟩⟩
              case rest =>
                clear HC23
                try clear c1
                try clear p1
                try clear q1
                try clear hx1
                try clear qi1
                try clear c2
                try clear p2
                try clear q2
                try clear hx2
                try clear qi2
                try clear c4
                try clear c6
                try clear c6b0
                try clear c7
                try clear c7b0
                try clear c9
                try clear c10
                try clear c10b0
                try clear c10b1
                try clear c11
                try clear c11b0
                try clear c11b1
                try clear p12
                try clear q12
                try clear hx12
                try clear qi12
                try clear c13
                try clear c13b0
                try clear c13b1
                try clear p14
                try clear q14
                try clear hx14
                try clear qi14
                try clear c15
                try clear c15b0
                try clear c15b1
                try clear p16
                try clear q16
                try clear hx16
                try clear qi16
                try clear c17
                try clear c17b0
                try clear c17b1
                try clear p18
                try clear q18
                try clear hx18
                try clear qi18
                try clear c19
                try clear c19b0
                try clear c19b1
                try clear p20
                try clear q20
                try clear hx20
                try clear qi20
                try clear c21
                try clear c21b0
                try clear c21b1
                try clear p22
                try clear q22
                try clear hx22
                try clear qi22
                try clear c24
                try clear c25
                try clear c25b0
                try clear c25b1
                try clear c25b2
                try clear hx123_0
                try clear p1
                try clear p12
                try clear p123
                try clear p14
                try clear p16
                try clear p18
                try clear p2
                try clear p20
                try clear p22
                try clear q1
                try clear q12
                try clear q123
                try clear q14
                try clear q16
                try clear q18
                try clear q2
                try clear q20
                try clear q22
                obtain ⟨kq, x13_22, rfl, HA, HJ22, HO_11, HB⟩ := hcut
                cases kq with
                | zero => exact absurd HA.out (by simp [spec_CsvRow.j2])
                | succ kj22 =>
                  have H := HA.out
                  clear HA
                  simp only [spec_CsvRow.j2] at H
                  replace H := Option.bind_eq_some_iff.mp H
                  obtain ⟨t124, A260, H⟩ := H
                  replace H : (if t124 = true then ((spec_quoted.f kj22 x13_22).bind fun t125 => (if x11_1.length < 8796093022208 then (spec_CsvRow.l0 kj22 l0 a1 a2 a3 a4 (x11_1 ++ [t125]) (wrap64 (x12_1 + 1))) else (none))) else ((spec_has.f kj22 x13_22 (⟨#[44]⟩ : ByteArray)).bind fun t129 => (if t129 = true then ((spec_quoted.f kj22 x13_22).bind fun t130 => (if x11_1.length < 8796093022208 then (spec_CsvRow.l0 kj22 l0 a1 a2 a3 a4 (x11_1 ++ [t130]) (wrap64 (x12_1 + 1))) else (none))) else ((spec_has.f kj22 x13_22 (⟨#[10]⟩ : ByteArray)).bind fun t134 => (if t134 = true then ((spec_quoted.f kj22 x13_22).bind fun t135 => (if x11_1.length < 8796093022208 then (spec_CsvRow.l0 kj22 l0 a1 a2 a3 a4 (x11_1 ++ [t135]) (wrap64 (x12_1 + 1))) else (none))) else (if x11_1.length < 8796093022208 then (spec_CsvRow.l0 kj22 l0 a1 a2 a3 a4 (x11_1 ++ [x13_22]) (wrap64 (x12_1 + 1))) else (none))))))) = some r := H
                  have A26 := Aside0.mk A260
                  clear A260
                  by_cases c27 : t124 = true
                  · subst c27
                    have H1 : ((spec_quoted.f kj22 x13_22).bind fun t125 => (if x11_1.length < 8796093022208 then (spec_CsvRow.l0 kj22 l0 a1 a2 a3 a4 (x11_1 ++ [t125]) (wrap64 (x12_1 + 1))) else (none))) = some r := by rw [if_pos rfl] at H; exact H
                    clear H
                    have H := H1
                    clear H1
                    replace H := Option.bind_eq_some_iff.mp H
                    obtain ⟨t125, A280, H⟩ := H
                    replace H : (if x11_1.length < 8796093022208 then (spec_CsvRow.l0 kj22 l0 a1 a2 a3 a4 (x11_1 ++ [t125]) (wrap64 (x12_1 + 1))) else (none)) = some r := H
                    have A28 := Aside0.mk A280
                    clear A280
                    by_cases c29 : x11_1.length < 8796093022208
                    · rw [if_pos c29] at H
                      have LMc29 := Aside0.mk c29
                      clear c29
                      obtain ⟨y126, hy126⟩ : ∃ y_ : List ByteArray, y_ = (x11_1 ++ [t125]) := ⟨_, rfl⟩
                      replace H : (spec_CsvRow.l0 kj22 l0 a1 a2 a3 a4 y126 (wrap64 (x12_1 + 1))) = some r := by first | (rw [hy126]; with_reducible exact H) | (have H2_ := (Option.bind_some _ _).symm.trans H; rw [hy126]; with_reducible exact H2_) | (have H2_ := (Option.bind_some _ _).symm.trans H; with_reducible exact H2_) | with_reducible exact H | (rw [hy126]; exact H) | exact H
                      have Ny126 := Aside0.mk hy126
                      clear hy126
                      have H' := Aside0.mk H
                      clear H
                      go_wp2_with (first | ((with_reducible refine gate_callee (f := 79) rfl ?_); refine goesL_ (some 62) rfl rfl Try.func79 (by kernel_rfl) rfl #[.string x13_22, .string (⟨#[34]⟩ : ByteArray)] rfl (by (try simp only [List.map_toArray, List.map_cons, List.map_nil]); first | done | rfl | (simp only [List.length_drop, List.length_take]; rfl)) ?_; (with_reducible refine (spec_has.calls kj22 x13_22 (⟨#[34]⟩ : ByteArray) true _ A26.out).mono ?_); rintro e w' ⟨rfl, ⟨nd, rfl⟩⟩; refine ⟨_, rfl, ?_⟩) | ((with_reducible refine gate_callee (f := 80) rfl ?_); refine goesL_ (some 72) rfl rfl Try.func80 (by kernel_rfl) rfl #[.string x13_22] rfl (by (try simp only [List.map_toArray, List.map_cons, List.map_nil]); first | done | rfl | (simp only [List.length_drop, List.length_take]; rfl)) ?_; (with_reducible refine (spec_quoted.calls kj22 x13_22 t125 _ A28.out).mono ?_); rintro e w' ⟨rfl, ⟨nd, rfl⟩⟩; refine ⟨_, rfl, ?_⟩) | ((with_reducible refine gate_builtin (b := .append) (xs := #[.tmp 73, .tmp 75]) rfl ?_); at_builtin; refine Kd.R_append Kd.string (w0 := w) w.heap.size rfl (.tmp 73) (.tmp 75) 29 9 (.string ⟨#[]⟩) 16 rfl Try.underlying29 info9 rfl (by decide) (by omega) u11 x11_1 t125 [.string t125] (fun _ => True) (fun _ => False) rfl rfl ?aP (fun _ hk => hk.elim) ?aF ?aO ?aB ?aS ?aL ?_; (case aP => exact rfl); (case aB => exact (by repeat (first | (with_reducible first | exact HB.out | apply below_alloc | apply pw_below_drewN | apply below_drew1) | exact HB.out))); (case aF => exact (fun _ _ => trivial)); (case aO => exact (by (with_reducible repeat (first | apply Kd.R_alloc | apply Kd.R_drewN | apply Kd.R_drew)); exact HO_11.out)); (case aS => exact (below_size (by repeat (first | (with_reducible first | exact HB.out | apply below_alloc | apply pw_below_drewN | apply below_drew1) | exact HB.out)))); (case aL => have := LMc29.out; omega); intro v127 w30 ho hb hg hat; rw [← Ny126.out] at ho; have n0_ := Aside0.mk (hb); have n1_ := Aside0.mk (ho); clear HB; clear HO_11; have HB := n0_; have HO128 := n1_; clear n0_ n1_; clear ho hb hg hat))
                      go_roundg kj22
                      case measure => have := HK1.out; have := HJ7.out; have := HJ22.out; omega
                      case rel => exact ⟨(y126), (wrap64 (x12_1 + 1)), (by first | rfl | (simp; done) | (simp [*]; done)), H', ⟨by have := HK1.out; have := HJ7.out; have := HJ22.out; omega⟩, ⟨by (with_reducible repeat (first | apply Kd.R_alloc | apply Kd.R_drewN | apply Kd.R_drew)); exact HO128.out⟩, ⟨by repeat (first | (with_reducible first | exact HB.out | apply below_alloc | apply pw_below_drewN | apply below_drew1) | exact HB.out)⟩⟩
                    · rw [if_neg c29] at H
                      exact absurd H (by simp)
                  · replace c27 := Bool.eq_false_iff.mpr c27
                    subst c27
                    have H1 : ((spec_has.f kj22 x13_22 (⟨#[44]⟩ : ByteArray)).bind fun t129 => (if t129 = true then ((spec_quoted.f kj22 x13_22).bind fun t130 => (if x11_1.length < 8796093022208 then (spec_CsvRow.l0 kj22 l0 a1 a2 a3 a4 (x11_1 ++ [t130]) (wrap64 (x12_1 + 1))) else (none))) else ((spec_has.f kj22 x13_22 (⟨#[10]⟩ : ByteArray)).bind fun t134 => (if t134 = true then ((spec_quoted.f kj22 x13_22).bind fun t135 => (if x11_1.length < 8796093022208 then (spec_CsvRow.l0 kj22 l0 a1 a2 a3 a4 (x11_1 ++ [t135]) (wrap64 (x12_1 + 1))) else (none))) else (if x11_1.length < 8796093022208 then (spec_CsvRow.l0 kj22 l0 a1 a2 a3 a4 (x11_1 ++ [x13_22]) (wrap64 (x12_1 + 1))) else (none)))))) = some r := by rw [if_neg (show ¬ (false = true) by decide)] at H; exact H
                    clear H
                    have H := H1
                    clear H1
                    replace H := Option.bind_eq_some_iff.mp H
                    obtain ⟨t129, A310, H⟩ := H
                    replace H : (if t129 = true then ((spec_quoted.f kj22 x13_22).bind fun t130 => (if x11_1.length < 8796093022208 then (spec_CsvRow.l0 kj22 l0 a1 a2 a3 a4 (x11_1 ++ [t130]) (wrap64 (x12_1 + 1))) else (none))) else ((spec_has.f kj22 x13_22 (⟨#[10]⟩ : ByteArray)).bind fun t134 => (if t134 = true then ((spec_quoted.f kj22 x13_22).bind fun t135 => (if x11_1.length < 8796093022208 then (spec_CsvRow.l0 kj22 l0 a1 a2 a3 a4 (x11_1 ++ [t135]) (wrap64 (x12_1 + 1))) else (none))) else (if x11_1.length < 8796093022208 then (spec_CsvRow.l0 kj22 l0 a1 a2 a3 a4 (x11_1 ++ [x13_22]) (wrap64 (x12_1 + 1))) else (none))))) = some r := H
                    have A31 := Aside0.mk A310
                    clear A310
                    by_cases c32 : t129 = true
                    · subst c32
                      have H1 : ((spec_quoted.f kj22 x13_22).bind fun t130 => (if x11_1.length < 8796093022208 then (spec_CsvRow.l0 kj22 l0 a1 a2 a3 a4 (x11_1 ++ [t130]) (wrap64 (x12_1 + 1))) else (none))) = some r := by rw [if_pos rfl] at H; exact H
                      clear H
                      have H := H1
                      clear H1
                      replace H := Option.bind_eq_some_iff.mp H
                      obtain ⟨t130, A330, H⟩ := H
                      replace H : (if x11_1.length < 8796093022208 then (spec_CsvRow.l0 kj22 l0 a1 a2 a3 a4 (x11_1 ++ [t130]) (wrap64 (x12_1 + 1))) else (none)) = some r := H
                      have A33 := Aside0.mk A330
                      clear A330
                      by_cases c34 : x11_1.length < 8796093022208
                      · rw [if_pos c34] at H
                        have LMc34 := Aside0.mk c34
                        clear c34
                        obtain ⟨y131, hy131⟩ : ∃ y_ : List ByteArray, y_ = (x11_1 ++ [t130]) := ⟨_, rfl⟩
                        replace H : (spec_CsvRow.l0 kj22 l0 a1 a2 a3 a4 y131 (wrap64 (x12_1 + 1))) = some r := by first | (rw [hy131]; with_reducible exact H) | (have H2_ := (Option.bind_some _ _).symm.trans H; rw [hy131]; with_reducible exact H2_) | (have H2_ := (Option.bind_some _ _).symm.trans H; with_reducible exact H2_) | with_reducible exact H | (rw [hy131]; exact H) | exact H
                        have Ny131 := Aside0.mk hy131
                        clear hy131
                        have H' := Aside0.mk H
                        clear H
                        go_wp2_with (first | ((with_reducible refine gate_callee (f := 79) rfl ?_); refine goesL_ (some 62) rfl rfl Try.func79 (by kernel_rfl) rfl #[.string x13_22, .string (⟨#[34]⟩ : ByteArray)] rfl (by (try simp only [List.map_toArray, List.map_cons, List.map_nil]); first | done | rfl | (simp only [List.length_drop, List.length_take]; rfl)) ?_; (with_reducible refine (spec_has.calls kj22 x13_22 (⟨#[34]⟩ : ByteArray) false _ A26.out).mono ?_); rintro e w' ⟨rfl, ⟨nd, rfl⟩⟩; refine ⟨_, rfl, ?_⟩) | (go_at_call 79; (with_reducible refine (spec_has.calls kj22 x13_22 (⟨#[44]⟩ : ByteArray) true _ A31.out).mono ?_); rintro e w' ⟨rfl, ⟨nd, rfl⟩⟩) | ((with_reducible refine gate_callee (f := 80) rfl ?_); refine goesL_ (some 72) rfl rfl Try.func80 (by kernel_rfl) rfl #[.string x13_22] rfl (by (try simp only [List.map_toArray, List.map_cons, List.map_nil]); first | done | rfl | (simp only [List.length_drop, List.length_take]; rfl)) ?_; (with_reducible refine (spec_quoted.calls kj22 x13_22 t130 _ A33.out).mono ?_); rintro e w' ⟨rfl, ⟨nd, rfl⟩⟩; refine ⟨_, rfl, ?_⟩) | ((with_reducible refine gate_builtin (b := .append) (xs := #[.tmp 73, .tmp 75]) rfl ?_); at_builtin; refine Kd.R_append Kd.string (w0 := w) w.heap.size rfl (.tmp 73) (.tmp 75) 29 9 (.string ⟨#[]⟩) 16 rfl Try.underlying29 info9 rfl (by decide) (by omega) u11 x11_1 t130 [.string t130] (fun _ => True) (fun _ => False) rfl rfl ?aP (fun _ hk => hk.elim) ?aF ?aO ?aB ?aS ?aL ?_; (case aP => exact rfl); (case aB => exact (by repeat (first | (with_reducible first | exact HB.out | apply below_alloc | apply pw_below_drewN | apply below_drew1) | exact HB.out))); (case aF => exact (fun _ _ => trivial)); (case aO => exact (by (with_reducible repeat (first | apply Kd.R_alloc | apply Kd.R_drewN | apply Kd.R_drew)); exact HO_11.out)); (case aS => exact (below_size (by repeat (first | (with_reducible first | exact HB.out | apply below_alloc | apply pw_below_drewN | apply below_drew1) | exact HB.out)))); (case aL => have := LMc34.out; omega); intro v132 w35 ho hb hg hat; rw [← Ny131.out] at ho; have n0_ := Aside0.mk (hb); have n1_ := Aside0.mk (ho); clear HB; clear HO_11; have HB := n0_; have HO133 := n1_; clear n0_ n1_; clear ho hb hg hat))
                        go_roundg kj22
                        case measure => have := HK1.out; have := HJ7.out; have := HJ22.out; omega
                        case rel => exact ⟨(y131), (wrap64 (x12_1 + 1)), (by first | rfl | (simp; done) | (simp [*]; done)), H', ⟨by have := HK1.out; have := HJ7.out; have := HJ22.out; omega⟩, ⟨by (with_reducible repeat (first | apply Kd.R_alloc | apply Kd.R_drewN | apply Kd.R_drew)); exact HO133.out⟩, ⟨by repeat (first | (with_reducible first | exact HB.out | apply below_alloc | apply pw_below_drewN | apply below_drew1) | exact HB.out)⟩⟩
                      · rw [if_neg c34] at H
                        exact absurd H (by simp)
                    · replace c32 := Bool.eq_false_iff.mpr c32
                      subst c32
                      have H1 : ((spec_has.f kj22 x13_22 (⟨#[10]⟩ : ByteArray)).bind fun t134 => (if t134 = true then ((spec_quoted.f kj22 x13_22).bind fun t135 => (if x11_1.length < 8796093022208 then (spec_CsvRow.l0 kj22 l0 a1 a2 a3 a4 (x11_1 ++ [t135]) (wrap64 (x12_1 + 1))) else (none))) else (if x11_1.length < 8796093022208 then (spec_CsvRow.l0 kj22 l0 a1 a2 a3 a4 (x11_1 ++ [x13_22]) (wrap64 (x12_1 + 1))) else (none)))) = some r := by rw [if_neg (show ¬ (false = true) by decide)] at H; exact H
                      clear H
                      have H := H1
                      clear H1
                      replace H := Option.bind_eq_some_iff.mp H
                      obtain ⟨t134, A360, H⟩ := H
                      replace H : (if t134 = true then ((spec_quoted.f kj22 x13_22).bind fun t135 => (if x11_1.length < 8796093022208 then (spec_CsvRow.l0 kj22 l0 a1 a2 a3 a4 (x11_1 ++ [t135]) (wrap64 (x12_1 + 1))) else (none))) else (if x11_1.length < 8796093022208 then (spec_CsvRow.l0 kj22 l0 a1 a2 a3 a4 (x11_1 ++ [x13_22]) (wrap64 (x12_1 + 1))) else (none))) = some r := H
                      have A36 := Aside0.mk A360
                      clear A360
                      by_cases c37 : t134 = true
                      · subst c37
                        have H1 : ((spec_quoted.f kj22 x13_22).bind fun t135 => (if x11_1.length < 8796093022208 then (spec_CsvRow.l0 kj22 l0 a1 a2 a3 a4 (x11_1 ++ [t135]) (wrap64 (x12_1 + 1))) else (none))) = some r := by rw [if_pos rfl] at H; exact H
                        clear H
                        have H := H1
                        clear H1
                        replace H := Option.bind_eq_some_iff.mp H
                        obtain ⟨t135, A380, H⟩ := H
                        replace H : (if x11_1.length < 8796093022208 then (spec_CsvRow.l0 kj22 l0 a1 a2 a3 a4 (x11_1 ++ [t135]) (wrap64 (x12_1 + 1))) else (none)) = some r := H
                        have A38 := Aside0.mk A380
                        clear A380
                        by_cases c39 : x11_1.length < 8796093022208
                        · rw [if_pos c39] at H
                          have LMc39 := Aside0.mk c39
                          clear c39
                          obtain ⟨y136, hy136⟩ : ∃ y_ : List ByteArray, y_ = (x11_1 ++ [t135]) := ⟨_, rfl⟩
                          replace H : (spec_CsvRow.l0 kj22 l0 a1 a2 a3 a4 y136 (wrap64 (x12_1 + 1))) = some r := by first | (rw [hy136]; with_reducible exact H) | (have H2_ := (Option.bind_some _ _).symm.trans H; rw [hy136]; with_reducible exact H2_) | (have H2_ := (Option.bind_some _ _).symm.trans H; with_reducible exact H2_) | with_reducible exact H | (rw [hy136]; exact H) | exact H
                          have Ny136 := Aside0.mk hy136
                          clear hy136
                          have H' := Aside0.mk H
                          clear H
                          go_wp2_with (first | ((with_reducible refine gate_callee (f := 79) rfl ?_); refine goesL_ (some 62) rfl rfl Try.func79 (by kernel_rfl) rfl #[.string x13_22, .string (⟨#[34]⟩ : ByteArray)] rfl (by (try simp only [List.map_toArray, List.map_cons, List.map_nil]); first | done | rfl | (simp only [List.length_drop, List.length_take]; rfl)) ?_; (with_reducible refine (spec_has.calls kj22 x13_22 (⟨#[34]⟩ : ByteArray) false _ A26.out).mono ?_); rintro e w' ⟨rfl, ⟨nd, rfl⟩⟩; refine ⟨_, rfl, ?_⟩) | (go_at_call 79; (with_reducible refine (spec_has.calls kj22 x13_22 (⟨#[44]⟩ : ByteArray) false _ A31.out).mono ?_); rintro e w' ⟨rfl, ⟨nd, rfl⟩⟩) | (go_at_call 79; (with_reducible refine (spec_has.calls kj22 x13_22 (⟨#[10]⟩ : ByteArray) true _ A36.out).mono ?_); rintro e w' ⟨rfl, ⟨nd, rfl⟩⟩) | ((with_reducible refine gate_callee (f := 80) rfl ?_); refine goesL_ (some 72) rfl rfl Try.func80 (by kernel_rfl) rfl #[.string x13_22] rfl (by (try simp only [List.map_toArray, List.map_cons, List.map_nil]); first | done | rfl | (simp only [List.length_drop, List.length_take]; rfl)) ?_; (with_reducible refine (spec_quoted.calls kj22 x13_22 t135 _ A38.out).mono ?_); rintro e w' ⟨rfl, ⟨nd, rfl⟩⟩; refine ⟨_, rfl, ?_⟩) | ((with_reducible refine gate_builtin (b := .append) (xs := #[.tmp 73, .tmp 75]) rfl ?_); at_builtin; refine Kd.R_append Kd.string (w0 := w) w.heap.size rfl (.tmp 73) (.tmp 75) 29 9 (.string ⟨#[]⟩) 16 rfl Try.underlying29 info9 rfl (by decide) (by omega) u11 x11_1 t135 [.string t135] (fun _ => True) (fun _ => False) rfl rfl ?aP (fun _ hk => hk.elim) ?aF ?aO ?aB ?aS ?aL ?_; (case aP => exact rfl); (case aB => exact (by repeat (first | (with_reducible first | exact HB.out | apply below_alloc | apply pw_below_drewN | apply below_drew1) | exact HB.out))); (case aF => exact (fun _ _ => trivial)); (case aO => exact (by (with_reducible repeat (first | apply Kd.R_alloc | apply Kd.R_drewN | apply Kd.R_drew)); exact HO_11.out)); (case aS => exact (below_size (by repeat (first | (with_reducible first | exact HB.out | apply below_alloc | apply pw_below_drewN | apply below_drew1) | exact HB.out)))); (case aL => have := LMc39.out; omega); intro v137 w40 ho hb hg hat; rw [← Ny136.out] at ho; have n0_ := Aside0.mk (hb); have n1_ := Aside0.mk (ho); clear HB; clear HO_11; have HB := n0_; have HO138 := n1_; clear n0_ n1_; clear ho hb hg hat))
                          go_roundg kj22
                          case measure => have := HK1.out; have := HJ7.out; have := HJ22.out; omega
                          case rel => exact ⟨(y136), (wrap64 (x12_1 + 1)), (by first | rfl | (simp; done) | (simp [*]; done)), H', ⟨by have := HK1.out; have := HJ7.out; have := HJ22.out; omega⟩, ⟨by (with_reducible repeat (first | apply Kd.R_alloc | apply Kd.R_drewN | apply Kd.R_drew)); exact HO138.out⟩, ⟨by repeat (first | (with_reducible first | exact HB.out | apply below_alloc | apply pw_below_drewN | apply below_drew1) | exact HB.out)⟩⟩
                        · rw [if_neg c39] at H
                          exact absurd H (by simp)
                      · replace c37 := Bool.eq_false_iff.mpr c37
                        subst c37
                        have H1 : (if x11_1.length < 8796093022208 then (spec_CsvRow.l0 kj22 l0 a1 a2 a3 a4 (x11_1 ++ [x13_22]) (wrap64 (x12_1 + 1))) else (none)) = some r := by rw [if_neg (show ¬ (false = true) by decide)] at H; exact H
                        clear H
                        have H := H1
                        clear H1
                        by_cases c41 : x11_1.length < 8796093022208
                        · rw [if_pos c41] at H
                          have LMc41 := Aside0.mk c41
                          clear c41
                          obtain ⟨y139, hy139⟩ : ∃ y_ : List ByteArray, y_ = (x11_1 ++ [x13_22]) := ⟨_, rfl⟩
                          replace H : (spec_CsvRow.l0 kj22 l0 a1 a2 a3 a4 y139 (wrap64 (x12_1 + 1))) = some r := by first | (rw [hy139]; with_reducible exact H) | (have H2_ := (Option.bind_some _ _).symm.trans H; rw [hy139]; with_reducible exact H2_) | (have H2_ := (Option.bind_some _ _).symm.trans H; with_reducible exact H2_) | with_reducible exact H | (rw [hy139]; exact H) | exact H
                          have Ny139 := Aside0.mk hy139
                          clear hy139
                          have H' := Aside0.mk H
                          clear H
                          go_wp2_with (first | ((with_reducible refine gate_callee (f := 79) rfl ?_); refine goesL_ (some 62) rfl rfl Try.func79 (by kernel_rfl) rfl #[.string x13_22, .string (⟨#[34]⟩ : ByteArray)] rfl (by (try simp only [List.map_toArray, List.map_cons, List.map_nil]); first | done | rfl | (simp only [List.length_drop, List.length_take]; rfl)) ?_; (with_reducible refine (spec_has.calls kj22 x13_22 (⟨#[34]⟩ : ByteArray) false _ A26.out).mono ?_); rintro e w' ⟨rfl, ⟨nd, rfl⟩⟩; refine ⟨_, rfl, ?_⟩) | (go_at_call 79; (with_reducible refine (spec_has.calls kj22 x13_22 (⟨#[44]⟩ : ByteArray) false _ A31.out).mono ?_); rintro e w' ⟨rfl, ⟨nd, rfl⟩⟩) | (go_at_call 79; (with_reducible refine (spec_has.calls kj22 x13_22 (⟨#[10]⟩ : ByteArray) false _ A36.out).mono ?_); rintro e w' ⟨rfl, ⟨nd, rfl⟩⟩) | ((with_reducible refine gate_builtin (b := .append) (xs := #[.tmp 73, .tmp 75]) rfl ?_); at_builtin; refine Kd.R_append Kd.string (w0 := w) w.heap.size rfl (.tmp 73) (.tmp 75) 29 9 (.string ⟨#[]⟩) 16 rfl Try.underlying29 info9 rfl (by decide) (by omega) u11 x11_1 x13_22 [.string x13_22] (fun _ => True) (fun _ => False) rfl rfl ?aP (fun _ hk => hk.elim) ?aF ?aO ?aB ?aS ?aL ?_; (case aP => exact rfl); (case aB => exact (by repeat (first | (with_reducible first | exact HB.out | apply below_alloc | apply pw_below_drewN | apply below_drew1) | exact HB.out))); (case aF => exact (fun _ _ => trivial)); (case aO => exact (by (with_reducible repeat (first | apply Kd.R_alloc | apply Kd.R_drewN | apply Kd.R_drew)); exact HO_11.out)); (case aS => exact (below_size (by repeat (first | (with_reducible first | exact HB.out | apply below_alloc | apply pw_below_drewN | apply below_drew1) | exact HB.out)))); (case aL => have := LMc41.out; omega); intro v140 w42 ho hb hg hat; rw [← Ny139.out] at ho; have n0_ := Aside0.mk (hb); have n1_ := Aside0.mk (ho); clear HB; clear HO_11; have HB := n0_; have HO141 := n1_; clear n0_ n1_; clear ho hb hg hat))
                          go_roundg kj22
                          case measure => have := HK1.out; have := HJ7.out; have := HJ22.out; omega
                          case rel => exact ⟨(y139), (wrap64 (x12_1 + 1)), (by first | rfl | (simp; done) | (simp [*]; done)), H', ⟨by have := HK1.out; have := HJ7.out; have := HJ22.out; omega⟩, ⟨by (with_reducible repeat (first | apply Kd.R_alloc | apply Kd.R_drewN | apply Kd.R_drew)); exact HO141.out⟩, ⟨by repeat (first | (with_reducible first | exact HB.out | apply below_alloc | apply pw_below_drewN | apply below_drew1) | exact HB.out)⟩⟩
                        · rw [if_neg c41] at H
                          exact absurd H (by simp)
        · rw [if_neg c7] at H
          exact absurd H (by simp)
      · rw [if_neg c6] at H
        have c6b0 : decide (x12_1 < (l0.length : Int)) = false := decide_eq_false c6
        clear c6
        replace H := Option.bind_eq_some_iff.mp H
        obtain ⟨t122, A430, H⟩ := H
        replace H : (some t122) = some r := H
        have A43 := Aside0.mk A430
        clear A430
        obtain rfl := Option.some.inj H
        obtain ⟨Ao44, co44, eo44⟩ := Kd.R_slice HO_11.out
        subst eo44
        go_wp2_with (first | ((with_reducible refine gate_callee (f := 81) rfl ?_); refine goesL_ (some 81) rfl rfl Try.func81 (by kernel_rfl) rfl #[.slice Ao44 x11_1.length co44, .int .i64 a1, .string (⟨#[44]⟩ : ByteArray), .bool a3, .int .i64 a4] rfl (by (try simp only [List.map_toArray, List.map_cons, List.map_nil]); first | done | rfl | (simp only [List.length_drop, List.length_take]; rfl)) ?_; (with_reducible refine (spec_separated.calls k1 _ _ x11_1 a1 (⟨#[44]⟩ : ByteArray) a3 a4 t122 _ ?side1 ?side2 A43.out).mono ?_); (case side1 => repeat (first | exact (Kd.R_reads' HO_11.out).2.2 | (with_reducible refine Kd.C_alloc ?_ _) | (with_reducible refine Kd.C_drewN ?_ _) | (with_reducible refine Kd.C_drew ?_))); (case side2 => exact (Kd.R_reads' HO_11.out).2.1); rintro e w45 ⟨rfl, hb⟩; refine ⟨_, rfl, ?_⟩; have n0_ := Aside0.mk (Kd.R_below (by (with_reducible repeat (first | apply Kd.R_alloc | apply Kd.R_drewN | apply Kd.R_drew)); exact HO_11.out) hb); have n1_ := Aside0.mk (below_step (by repeat (first | (with_reducible first | exact HB.out | apply below_alloc | apply pw_below_drewN | apply below_drew1) | exact HB.out)) hb); clear HO_11; clear HB; have HO_11 := n0_; have HB := n1_; clear n0_ n1_; (try clear hb); (try clear hb2); (try clear hk); (try clear hi)))
        go_ret
        exact ⟨by first | rfl | (simp [errW_none, errW_some] <;> rfl) | (simp [*, errW_none, errW_some] <;> rfl), by repeat (first | (with_reducible first | exact HB.out | apply below_alloc | apply pw_below_drewN | apply below_drew1) | exact HB.out)⟩

end Go.Proofs.Ytjoagjkmghmnnaa.GFnCsvRow
