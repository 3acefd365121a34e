-- printed by a program of this session (gprint.py) out of the translation; Lean checks it
import Derived.Test.YtjoagjkmghmnnaaGFnTextAlignMarkdownWidthx0
namespace Go.Proofs.Ytjoagjkmghmnnaa.GFnTextAlignMarkdownWidth
open Go.RowKit Go.Proofs.YtjoagjkmghmnnaaW.PrintWords Go.Proofs.YtjoagjkmghmnnaaW.PrintLast Go.Proofs.Ytjoagjkmghmnnaa.Given Go.Proofs.YtjoagjkmghmnnaaW.PrintMore
attribute [local go_sem] max2_int min2_int max_two min_two max_three min_three max_four min_four   -- for this text's walks alone
set_option linter.unusedVariables false
set_option linter.unusedSimpArgs false

-- GIVEN: strings_Repeat

/-! ### text_Align_MarkdownProperty: function 77 -/
mutual
def text_Align_MarkdownProperty.j0 : Nat → Int → List Int → Int → Bool → Option (ByteArray)
  | 0, _, _, _, _ => none
  | k + 1, x0, x1, x5, x16 => if x16 = true then (if 0 < (x1.length : Int) then (text_Align_MarkdownProperty.j1 k x0 (rd x1 0)) else (none)) else (text_Align_MarkdownProperty.j1 k x0 x5)
def text_Align_MarkdownProperty.j1 : Nat → Int → Int → Option (ByteArray)
  | 0, _, _ => none
  | k + 1, x0, x5 => (strings_Repeat.f (⟨#[45]⟩ : ByteArray) x5).bind fun t103 => (if x0 = 1 then (if 1 + t103.size ≤ 9223372036854775807 then (if ((⟨#[58]⟩ : ByteArray) ++ t103).size + 1 ≤ 9223372036854775807 then (some (((⟨#[58]⟩ : ByteArray) ++ t103) ++ (⟨#[32]⟩ : ByteArray))) else (none)) else (none)) else (if x0 = 2 then (if 1 + t103.size ≤ 9223372036854775807 then (if ((⟨#[58]⟩ : ByteArray) ++ t103).size + 1 ≤ 9223372036854775807 then (some (((⟨#[58]⟩ : ByteArray) ++ t103) ++ (⟨#[58]⟩ : ByteArray))) else (none)) else (none)) else (if x0 = 4 then (if 1 + t103.size ≤ 9223372036854775807 then (if ((⟨#[32]⟩ : ByteArray) ++ t103).size + 1 ≤ 9223372036854775807 then (some (((⟨#[32]⟩ : ByteArray) ++ t103) ++ (⟨#[58]⟩ : ByteArray))) else (none)) else (none)) else (if 1 + t103.size ≤ 9223372036854775807 then (if ((⟨#[32]⟩ : ByteArray) ++ t103).size + 1 ≤ 9223372036854775807 then (some (((⟨#[32]⟩ : ByteArray) ++ t103) ++ (⟨#[32]⟩ : ByteArray))) else (none)) else (none)))))
end
def text_Align_MarkdownProperty.f (k : Nat) (a0 : Int) (l1 : List Int) : Option (ByteArray) := if (l1.length : Int) > 0 then (if 0 < (l1.length : Int) then (text_Align_MarkdownProperty.j0 k a0 l1 3 (decide ((rd l1 0) > 3))) else (none)) else (text_Align_MarkdownProperty.j0 k a0 l1 3 false)
theorem text_Align_MarkdownProperty.mono_l : ∀ k, (∀ y0 y1 y2 y3, LeO (text_Align_MarkdownProperty.j0 k y0 y1 y2 y3) (text_Align_MarkdownProperty.j0 (k + 1) y0 y1 y2 y3)) ∧ (∀ y0 y1, LeO (text_Align_MarkdownProperty.j1 k y0 y1) (text_Align_MarkdownProperty.j1 (k + 1) y0 y1))
  | 0 => ⟨fun _ _ _ _ r h => by simp [text_Align_MarkdownProperty.j0] at h, fun _ _ r h => by simp [text_Align_MarkdownProperty.j1] at h⟩
  | k + 1 => by
    obtain ⟨ih0, ih1⟩ := text_Align_MarkdownProperty.mono_l k
    refine ⟨?_, ?_⟩
    · intro y0 y1 y2 y3
      unfold text_Align_MarkdownProperty.j0
      repeat' first
      | (with_reducible exact ih0 _ _ _ _)
      | (with_reducible exact ih1 _ _)
      | (with_reducible exact LeO.refl _)
      | (with_reducible exact LeO.none _)
      | (with_reducible refine LeO.ite ?_ ?_)
      | (with_reducible refine LeO.bind ?_ (fun _ => ?_))
      | exact ih0 _ _ _ _
      | exact ih1 _ _
      | exact LeO.none _
      | refine LeO.ite ?_ ?_
      | refine LeO.bind ?_ (fun _ => ?_)
    · intro y0 y1
      unfold text_Align_MarkdownProperty.j1
      repeat' first
      | (with_reducible exact ih0 _ _ _ _)
      | (with_reducible exact ih1 _ _)
      | (with_reducible exact LeO.refl _)
      | (with_reducible exact LeO.none _)
      | (with_reducible refine LeO.ite ?_ ?_)
      | (with_reducible refine LeO.bind ?_ (fun _ => ?_))
      | exact ih0 _ _ _ _
      | exact ih1 _ _
      | exact LeO.none _
      | refine LeO.ite ?_ ?_
      | refine LeO.bind ?_ (fun _ => ?_)
theorem text_Align_MarkdownProperty.mono : ∀ a0 a1 k, LeO (text_Align_MarkdownProperty.f k a0 a1) (text_Align_MarkdownProperty.f (k + 1) a0 a1) := by
  intro a0 a1 k
  obtain ⟨ih0, ih1⟩ := text_Align_MarkdownProperty.mono_l k
  unfold text_Align_MarkdownProperty.f
  repeat' first
      | (with_reducible exact ih0 _ _ _ _)
      | (with_reducible exact ih1 _ _)
      | (with_reducible exact LeO.refl _)
      | (with_reducible exact LeO.none _)
      | (with_reducible refine LeO.ite ?_ ?_)
      | (with_reducible refine LeO.bind ?_ (fun _ => ?_))
      | exact ih0 _ _ _ _
      | exact ih1 _ _
      | exact LeO.none _
      | refine LeO.ite ?_ ?_
      | refine LeO.bind ?_ (fun _ => ?_)
set_option maxHeartbeats 8000000 in
set_option maxRecDepth 100000 in
theorem text_Align_MarkdownProperty.calls (k : Nat) (a0 : Int) (A1 : Option Addr) (c1 : Nat) (l1 : List Int) (r : ByteArray) (w : World) (hr1 : Kd.C (Kd.int .i64) w A1 l1.length l1) (hc1 : l1.length ≤ c1) (h : text_Align_MarkdownProperty.f k a0 l1 = some r) :
    Calls Try.prog 77 #[.int .i64 a0, .slice A1 l1.length c1] w fun e w' => e = .returned (.string r) ∧ Below w.heap.size w w' := by
  have HR1 := Aside0.mk hr1
  have HC1 := Aside0.mk hc1
  clear hr1 hc1
  have HB := Aside0.mk (Below.refl w.heap.size w)
  have H : (if (l1.length : Int) > 0 then (if 0 < (l1.length : Int) then (text_Align_MarkdownProperty.j0 k a0 l1 3 (decide ((rd l1 0) > 3))) else (none)) else (text_Align_MarkdownProperty.j0 k a0 l1 3 false)) = some r := h
  clear h
  have HC3 := Aside0.mk H
  clear H
  go_enter Try.func77, Try.ntmps77
  go_upto_region 2 with (fail)
  go_cut [16] (fun v16 wc => ∃ (kq : Nat) (x16_2 : Bool), v16 = .bool x16_2 ∧ Aside0 (text_Align_MarkdownProperty.j0 kq a0 l1 3 x16_2 = some r) ∧ Aside0 (kq ≤ k) ∧ Aside0 (Below w.heap.size w wc))
  case first =>
    have H := HC3.out
    clear HC3
    by_cases c4 : (l1.length : Int) > 0
    · rw [if_pos c4] at H
      have c4b0 : decide (0 < (l1.length : Int)) = true := decide_eq_true c4
      have c4b1 : decide (0 < l1.length) = true := decide_eq_true (by omega)
      clear c4
      (first | rw [c4b0] | (simp only [i64_w, i32_w]; rw [c4b0]) | skip)
      by_cases c5 : 0 < (l1.length : Int)
      · rw [if_pos c5] at H
        have c5b0 : decide (0 < (l1.length : Int)) = true := decide_eq_true c5
        have c5b1 : decide (0 < l1.length) = true := decide_eq_true (by omega)
        clear c5
        have H' := Aside0.mk H
        clear H
        have p101 : 0 ≤ (0 : Int) := (by omega)
        have q101 : 0 < (l1.length : Int) := of_decide_eq_true (by first | (with_reducible assumption) | assumption)
        obtain ⟨ad101, e101, hx101_0⟩ := Kd.at_int HR1.out 0 p101 q101
        cases e101
        have qi101 : (0 < l1.length) = True := eq_true (by omega)
        (try rw [show ((0 : Int)).toNat = 0 from rfl] at hx101_0)
        (try rw [Addr.add_zero'] at hx101_0)
        replace hx101_0 := (HB.out.cell (World.block_lt_of_cell? w _ hx101_0)).trans hx101_0
        replace p101 := eq_true p101
        replace q101 := eq_true q101
        go_wp2
        go_meet
        case rel => exact ⟨_, (decide ((rd l1 0) > 3)), (by first | rfl | (simp; done) | (simp [*]; done)), H', ⟨by first | omega | exact Nat.le_refl _⟩, ⟨by repeat (first | (with_reducible first | exact HB.out | apply below_alloc | apply pw_below_drewN | apply below_drew1) | exact HB.out)⟩⟩
      · rw [if_neg c5] at H
        exact absurd H (by simp)
    · rw [if_neg c4] at H
      have c4b0 : decide (0 < (l1.length : Int)) = false := decide_eq_false c4
      have c4b1 : decide (0 < l1.length) = false := decide_eq_false (by omega)
      clear c4
      (first | rw [c4b0] | (simp only [i64_w, i32_w]; rw [c4b0]) | skip)
      have H' := Aside0.mk H
      clear H
      go_wp2
      go_meet
      case rel => exact ⟨_, (false), (by first | rfl | (simp; done) | (simp [*]; done)), H', ⟨by first | omega | exact Nat.le_refl _⟩, ⟨by repeat (first | (with_reducible first | exact HB.out | apply below_alloc | apply pw_below_drewN | apply below_drew1) | exact HB.out)⟩⟩
  case rest =>
    clear HC3
    try clear c1
    try clear p1
    try clear q1
    try clear hx1
    try clear qi1
    try clear p2
    try clear c4
    try clear c4b0
    try clear c4b1
    try clear c5
    try clear c5b0
    try clear c5b1
    try clear hx101_0
    try clear p101
    try clear q101
    obtain ⟨kq, x16_2, rfl, HA, HJ2, HB⟩ := hcut
    cases kq with
    | zero => exact absurd HA.out (by simp [text_Align_MarkdownProperty.j0])
    | succ kj2 =>
      have H := HA.out
      clear HA
      simp only [text_Align_MarkdownProperty.j0] at H
      have HC6 := Aside0.mk H
      clear H
      go_upto_if 16 with (fail)
      go_cut [5] (fun v5 wc => ∃ (kq : Nat) (x5_5 : Int), v5 = .int .i64 x5_5 ∧ Aside0 (text_Align_MarkdownProperty.j1 kq a0 x5_5 = some r) ∧ Aside0 (kq ≤ kj2) ∧ Aside0 (Below w.heap.size w wc))
      case first =>
        have H := HC6.out
        clear HC6
        by_cases c7 : x16_2 = true
        · subst c7
          have H1 : (if 0 < (l1.length : Int) then (text_Align_MarkdownProperty.j1 kj2 a0 (rd l1 0)) else (none)) = some r := by rw [if_pos rfl] at H; exact H
          clear H
          have H := H1
          clear H1
          by_cases c8 : 0 < (l1.length : Int)
          · rw [if_pos c8] at H
            have c8b0 : decide (0 < (l1.length : Int)) = true := decide_eq_true c8
            have c8b1 : decide (0 < l1.length) = true := decide_eq_true (by omega)
            clear c8
            (first | rw [c8b0] | (simp only [i64_w, i32_w]; rw [c8b0]) | skip)
            have H' := Aside0.mk H
            clear H
            have p102 : 0 ≤ (0 : Int) := (by omega)
            have q102 : 0 < (l1.length : Int) := of_decide_eq_true (by first | (with_reducible assumption) | assumption)
            obtain ⟨ad102, e102, hx102_0⟩ := Kd.at_int HR1.out 0 p102 q102
            cases e102
            have qi102 : (0 < l1.length) = True := eq_true (by omega)
            (try rw [show ((0 : Int)).toNat = 0 from rfl] at hx102_0)
            (try rw [Addr.add_zero'] at hx102_0)
            replace hx102_0 := (HB.out.cell (World.block_lt_of_cell? w _ hx102_0)).trans hx102_0
            replace p102 := eq_true p102
            replace q102 := eq_true q102
            go_wp2
            go_meet
            case rel => exact ⟨_, (rd l1 0), (by first | rfl | (simp; done) | (simp [*]; done)), H', ⟨by have := HJ2.out; first | omega | exact Nat.le_refl _⟩, ⟨by repeat (first | (with_reducible first | exact HB.out | apply below_alloc | apply pw_below_drewN | apply below_drew1) | exact HB.out)⟩⟩
          · rw [if_neg c8] at H
            exact absurd H (by simp)
        · replace c7 := Bool.eq_false_iff.mpr c7
          subst c7
          have H1 : (text_Align_MarkdownProperty.j1 kj2 a0 3) = some r := by rw [if_neg (show ¬ (false = true) by decide)] at H; exact H
          clear H
          have H := H1
          clear H1
          have H' := Aside0.mk H
          clear H
          go_wp2
          go_meet
          case rel => exact ⟨_, (3), (by first | rfl | (simp; done) | (simp [*]; done)), H', ⟨by have := HJ2.out; first | omega | exact Nat.le_refl _⟩, ⟨by repeat (first | (with_reducible first | exact HB.out | apply below_alloc | apply pw_below_drewN | apply below_drew1) | exact HB.out)⟩⟩
      case rest =>
        clear HC6
        try clear c1
        try clear p1
        try clear q1
        try clear hx1
        try clear qi1
        try clear p2
        try clear c4
        try clear c4b0
        try clear c4b1
        try clear c5
        try clear c5b0
        try clear c5b1
        try clear c7
        try clear c8
        try clear c8b0
        try clear c8b1
        try clear hx101_0
        try clear hx102_0
        try clear p1
        try clear p101
        try clear p102
        try clear p2
        try clear q1
        try clear q101
        try clear q102
        obtain ⟨kq, x5_5, rfl, HA, HJ5, HB⟩ := hcut
        cases kq with
        | zero => exact absurd HA.out (by simp [text_Align_MarkdownProperty.j1])
        | succ kj5 =>
          have H := HA.out
          clear HA
          simp only [text_Align_MarkdownProperty.j1] at H
          replace H := Option.bind_eq_some_iff.mp H
          obtain ⟨t103, A90, H⟩ := H
          replace H : (if a0 = 1 then (if 1 + t103.size ≤ 9223372036854775807 then (if ((⟨#[58]⟩ : ByteArray) ++ t103).size + 1 ≤ 9223372036854775807 then (some (((⟨#[58]⟩ : ByteArray) ++ t103) ++ (⟨#[32]⟩ : ByteArray))) else (none)) else (none)) else (if a0 = 2 then (if 1 + t103.size ≤ 9223372036854775807 then (if ((⟨#[58]⟩ : ByteArray) ++ t103).size + 1 ≤ 9223372036854775807 then (some (((⟨#[58]⟩ : ByteArray) ++ t103) ++ (⟨#[58]⟩ : ByteArray))) else (none)) else (none)) else (if a0 = 4 then (if 1 + t103.size ≤ 9223372036854775807 then (if ((⟨#[32]⟩ : ByteArray) ++ t103).size + 1 ≤ 9223372036854775807 then (some (((⟨#[32]⟩ : ByteArray) ++ t103) ++ (⟨#[58]⟩ : ByteArray))) else (none)) else (none)) else (if 1 + t103.size ≤ 9223372036854775807 then (if ((⟨#[32]⟩ : ByteArray) ++ t103).size + 1 ≤ 9223372036854775807 then (some (((⟨#[32]⟩ : ByteArray) ++ t103) ++ (⟨#[32]⟩ : ByteArray))) else (none)) else (none))))) = some r := H
          have A9 := Aside0.mk A90
          clear A90
          by_cases c10 : a0 = 1
          · rw [if_pos c10] at H
            have c10b0 : (a0 == 1) = true := beq_iff_eq.mpr c10
            have c10b1 : (a0 != 1) = false := bne_eq_false_iff_eq.mpr c10
            clear c10
            by_cases c11 : 1 + t103.size ≤ 9223372036854775807
            · rw [if_pos c11] at H
              have c11b0 := eq_true c11
              have c11b1 : decide (1 + t103.size ≤ 9223372036854775807) = true := decide_eq_true c11
              try have c11b2 : (9223372036854775807 < 1 + t103.size) = False := eq_false (Nat.not_lt.2 c11)
              by_cases c12 : ((⟨#[58]⟩ : ByteArray) ++ t103).size + 1 ≤ 9223372036854775807
              · rw [if_pos c12] at H
                have c12b0 := eq_true c12
                have c12b1 : decide (((⟨#[58]⟩ : ByteArray) ++ t103).size + 1 ≤ 9223372036854775807) = true := decide_eq_true c12
                try have c12b2 : (9223372036854775807 < ((⟨#[58]⟩ : ByteArray) ++ t103).size + 1) = False := eq_false (Nat.not_lt.2 c12)
                try have c12b3 : (9223372036854775807 < 1 + t103.size + 1) = False := eq_false (by have e_ : (((⟨#[58]⟩ : ByteArray) ++ t103).size + 1) = (1 + t103.size + 1) := (by (simp only [ByteArray.size_append]; first | done | rfl)); have z_ := c12; rw [e_] at z_; omega)
                obtain rfl := Option.some.inj H
                go_wp2_with (first | ((with_reducible refine gate_callee (f := 116) rfl ?_); refine goesL_ (some 21) rfl rfl Try.func116 (by kernel_rfl) rfl #[.string (⟨#[45]⟩ : ByteArray), .int .i64 x5_5] rfl (by (try simp only [List.map_toArray, List.map_cons, List.map_nil]); first | done | rfl | (simp only [List.length_drop, List.length_take]; rfl)) ?_; (with_reducible refine (strings_Repeat.calls (⟨#[45]⟩ : ByteArray) x5_5 t103 _ A9.out).mono ?_); rintro e w13 ⟨rfl, hb⟩; refine ⟨_, rfl, ?_⟩; have n0_ := Aside0.mk (below_step (by repeat (first | (with_reducible first | exact HB.out | apply below_alloc | apply pw_below_drewN | apply below_drew1) | exact HB.out)) hb); clear HB; have HB := n0_; clear n0_; (try clear hb); (try clear hb2); (try clear hk); (try clear hi)))
                go_ret
                exact ⟨by first | rfl | (simp [errW_none, errW_some] <;> rfl) | (simp [*, errW_none, errW_some] <;> rfl), by repeat (first | (with_reducible first | exact HB.out | apply below_alloc | apply pw_below_drewN | apply below_drew1) | exact HB.out)⟩
              · rw [if_neg c12] at H
                exact absurd H (by simp)
            · rw [if_neg c11] at H
              exact absurd H (by simp)
          · rw [if_neg c10] at H
            have c10b0 : (a0 == 1) = false := beq_eq_false_iff_ne.mpr c10
            have c10b1 : (a0 != 1) = true := bne_iff_ne.mpr c10
            by_cases c14 : a0 = 2
            · rw [if_pos c14] at H
              have c14b0 : (a0 == 2) = true := beq_iff_eq.mpr c14
              have c14b1 : (a0 != 2) = false := bne_eq_false_iff_eq.mpr c14
              clear c14
              by_cases c15 : 1 + t103.size ≤ 9223372036854775807
              · rw [if_pos c15] at H
                have c15b0 := eq_true c15
                have c15b1 : decide (1 + t103.size ≤ 9223372036854775807) = true := decide_eq_true c15
                try have c15b2 : (9223372036854775807 < 1 + t103.size) = False := eq_false (Nat.not_lt.2 c15)
                by_cases c16 : ((⟨#[58]⟩ : ByteArray) ++ t103).size + 1 ≤ 9223372036854775807
                · rw [if_pos c16] at H
                  have c16b0 := eq_true c16
                  have c16b1 : decide (((⟨#[58]⟩ : ByteArray) ++ t103).size + 1 ≤ 9223372036854775807) = true := decide_eq_true c16
                  try have c16b2 : (9223372036854775807 < ((⟨#[58]⟩ : ByteArray) ++ t103).size + 1) = False := eq_false (Nat.not_lt.2 c16)
                  try have c16b3 : (9223372036854775807 < 1 + t103.size + 1) = False := eq_false (by have e_ : (((⟨#[58]⟩ : ByteArray) ++ t103).size + 1) = (1 + t103.size + 1) := (by (simp only [ByteArray.size_append]; first | done | rfl)); have z_ := c16; rw [e_] at z_; omega)
                  obtain rfl := Option.some.inj H
                  go_wp2_with (first | ((with_reducible refine gate_callee (f := 116) rfl ?_); refine goesL_ (some 21) rfl rfl Try.func116 (by kernel_rfl) rfl #[.string (⟨#[45]⟩ : ByteArray), .int .i64 x5_5] rfl (by (try simp only [List.map_toArray, List.map_cons, List.map_nil]); first | done | rfl | (simp only [List.length_drop, List.length_take]; rfl)) ?_; (with_reducible refine (strings_Repeat.calls (⟨#[45]⟩ : ByteArray) x5_5 t103 _ A9.out).mono ?_); rintro e w17 ⟨rfl, hb⟩; refine ⟨_, rfl, ?_⟩; have n0_ := Aside0.mk (below_step (by repeat (first | (with_reducible first | exact HB.out | apply below_alloc | apply pw_below_drewN | apply below_drew1) | exact HB.out)) hb); clear HB; have HB := n0_; clear n0_; (try clear hb); (try clear hb2); (try clear hk); (try clear hi)))
                  go_ret
                  exact ⟨by first | rfl | (simp [errW_none, errW_some] <;> rfl) | (simp [*, errW_none, errW_some] <;> rfl), by repeat (first | (with_reducible first | exact HB.out | apply below_alloc | apply pw_below_drewN | apply below_drew1) | exact HB.out)⟩
                · rw [if_neg c16] at H
                  exact absurd H (by simp)
              · rw [if_neg c15] at H
                exact absurd H (by simp)
            · rw [if_neg c14] at H
              have c14b0 : (a0 == 2) = false := beq_eq_false_iff_ne.mpr c14
              have c14b1 : (a0 != 2) = true := bne_iff_ne.mpr c14
              by_cases c18 : a0 = 4
              · rw [if_pos c18] at H
                have c18b0 : (a0 == 4) = true := beq_iff_eq.mpr c18
                have c18b1 : (a0 != 4) = false := bne_eq_false_iff_eq.mpr c18
                clear c18
                by_cases c19 : 1 + t103.size ≤ 9223372036854775807
                · rw [if_pos c19] at H
                  have c19b0 := eq_true c19
                  have c19b1 : decide (1 + t103.size ≤ 9223372036854775807) = true := decide_eq_true c19
                  try have c19b2 : (9223372036854775807 < 1 + t103.size) = False := eq_false (Nat.not_lt.2 c19)
                  by_cases c20 : ((⟨#[32]⟩ : ByteArray) ++ t103).size + 1 ≤ 9223372036854775807
                  · rw [if_pos c20] at H
                    have c20b0 := eq_true c20
                    have c20b1 : decide (((⟨#[32]⟩ : ByteArray) ++ t103).size + 1 ≤ 9223372036854775807) = true := decide_eq_true c20
                    try have c20b2 : (9223372036854775807 < ((⟨#[32]⟩ : ByteArray) ++ t103).size + 1) = False := eq_false (Nat.not_lt.2 c20)
                    try have c20b3 : (9223372036854775807 < 1 + t103.size + 1) = False := eq_false (by have e_ : (((⟨#[32]⟩ : ByteArray) ++ t103).size + 1) = (1 + t103.size + 1) := (by (simp only [ByteArray.size_append]; first | done | rfl)); have z_ := c20; rw [e_] at z_; omega)
                    obtain rfl := Option.some.inj H
                    go_wp2_with (first | ((with_reducible refine gate_callee (f := 116) rfl ?_); refine goesL_ (some 21) rfl rfl Try.func116 (by kernel_rfl) rfl #[.string (⟨#[45]⟩ : ByteArray), .int .i64 x5_5] rfl (by (try simp only [List.map_toArray, List.map_cons, List.map_nil]); first | done | rfl | (simp only [List.length_drop, List.length_take]; rfl)) ?_; (with_reducible refine (strings_Repeat.calls (⟨#[45]⟩ : ByteArray) x5_5 t103 _ A9.out).mono ?_); rintro e w21 ⟨rfl, hb⟩; refine ⟨_, rfl, ?_⟩; have n0_ := Aside0.mk (below_step (by repeat (first | (with_reducible first | exact HB.out | apply below_alloc | apply pw_below_drewN | apply below_drew1) | exact HB.out)) hb); clear HB; have HB := n0_; clear n0_; (try clear hb); (try clear hb2); (try clear hk); (try clear hi)))
                    go_ret
                    exact ⟨by first | rfl | (simp [errW_none, errW_some] <;> rfl) | (simp [*, errW_none, errW_some] <;> rfl), by repeat (first | (with_reducible first | exact HB.out | apply below_alloc | apply pw_below_drewN | apply below_drew1) | exact HB.out)⟩
                  · rw [if_neg c20] at H
                    exact absurd H (by simp)
                · rw [if_neg c19] at H
                  exact absurd H (by simp)
              · rw [if_neg c18] at H
                have c18b0 : (a0 == 4) = false := beq_eq_false_iff_ne.mpr c18
                have c18b1 : (a0 != 4) = true := bne_iff_ne.mpr c18
                by_cases c22 : 1 + t103.size ≤ 9223372036854775807
                · rw [if_pos c22] at H
                  have c22b0 := eq_true c22
                  have c22b1 : decide (1 + t103.size ≤ 9223372036854775807) = true := decide_eq_true c22
                  try have c22b2 : (9223372036854775807 < 1 + t103.size) = False := eq_false (Nat.not_lt.2 c22)
                  by_cases c23 : ((⟨#[32]⟩ : ByteArray) ++ t103).size + 1 ≤ 9223372036854775807
                  · rw [if_pos c23] at H
                    have c23b0 := eq_true c23
                    have c23b1 : decide (((⟨#[32]⟩ : ByteArray) ++ t103).size + 1 ≤ 9223372036854775807) = true := decide_eq_true c23
                    try have c23b2 : (9223372036854775807 < ((⟨#[32]⟩ : ByteArray) ++ t103).size + 1) = False := eq_false (Nat.not_lt.2 c23)
                    try have c23b3 : (9223372036854775807 < 1 + t103.size + 1) = False := eq_false (by have e_ : (((⟨#[32]⟩ : ByteArray) ++ t103).size + 1) = (1 + t103.size + 1) := (by (simp only [ByteArray.size_append]; first | done | rfl)); have z_ := c23; rw [e_] at z_; omega)
                    obtain rfl := Option.some.inj H
                    go_wp2_with (first | ((with_reducible refine gate_callee (f := 116) rfl ?_); refine goesL_ (some 21) rfl rfl Try.func116 (by kernel_rfl) rfl #[.string (⟨#[45]⟩ : ByteArray), .int .i64 x5_5] rfl (by (try simp only [List.map_toArray, List.map_cons, List.map_nil]); first | done | rfl | (simp only [List.length_drop, List.length_take]; rfl)) ?_; (with_reducible refine (strings_Repeat.calls (⟨#[45]⟩ : ByteArray) x5_5 t103 _ A9.out).mono ?_); rintro e w24 ⟨rfl, hb⟩; refine ⟨_, rfl, ?_⟩; have n0_ := Aside0.mk (below_step (by repeat (first | (with_reducible first | exact HB.out | apply below_alloc | apply pw_below_drewN | apply below_drew1) | exact HB.out)) hb); clear HB; have HB := n0_; clear n0_; (try clear hb); (try clear hb2); (try clear hk); (try clear hi)))
                    go_ret
                    exact ⟨by first | rfl | (simp [errW_none, errW_some] <;> rfl) | (simp [*, errW_none, errW_some] <;> rfl), by repeat (first | (with_reducible first | exact HB.out | apply below_alloc | apply pw_below_drewN | apply below_drew1) | exact HB.out)⟩
                  · rw [if_neg c23] at H
                    exact absurd H (by simp)
                · rw [if_neg c22] at H
                  exact absurd H (by simp)

/-! ### impl_TextAlignMarkdown: function 38 -/
def impl_TextAlignMarkdown.f (k : Nat) (a0 : Int) (l1 : List Int) : Option (ByteArray) := (text_Align_MarkdownProperty.f k a0 l1).bind fun t104 => (some t104)
theorem impl_TextAlignMarkdown.mono : ∀ a0 a1 k, LeO (impl_TextAlignMarkdown.f k a0 a1) (impl_TextAlignMarkdown.f (k + 1) a0 a1) := by
  intro a0 a1 k
  unfold impl_TextAlignMarkdown.f
  repeat' first
      | (with_reducible exact text_Align_MarkdownProperty.mono _ _ _)
      | (with_reducible exact LeO.refl _)
      | (with_reducible exact LeO.none _)
      | (with_reducible refine LeO.ite ?_ ?_)
      | (with_reducible refine LeO.bind ?_ (fun _ => ?_))
      | exact text_Align_MarkdownProperty.mono _ _ _
      | exact LeO.none _
      | refine LeO.ite ?_ ?_
      | refine LeO.bind ?_ (fun _ => ?_)
set_option maxHeartbeats 8000000 in
set_option maxRecDepth 100000 in
theorem impl_TextAlignMarkdown.calls (k : Nat) (a0 : Int) (A1 : Option Addr) (c1 : Nat) (l1 : List Int) (r : ByteArray) (w : World) (hr1 : Kd.C (Kd.int .i64) w A1 l1.length l1) (hc1 : l1.length ≤ c1) (h : impl_TextAlignMarkdown.f k a0 l1 = some r) :
    Calls Try.prog 38 #[.int .i64 a0, .slice A1 l1.length c1] w fun e w' => e = .returned (.string r) ∧ Below w.heap.size w w' := by
  have HR1 := Aside0.mk hr1
  have HC1 := Aside0.mk hc1
  clear hr1 hc1
  have HB := Aside0.mk (Below.refl w.heap.size w)
  have H : ((text_Align_MarkdownProperty.f k a0 l1).bind fun t104 => (some t104)) = some r := h
  clear h
  replace H := Option.bind_eq_some_iff.mp H
  obtain ⟨t104, A30, H⟩ := H
  replace H : (some t104) = some r := H
  have A3 := Aside0.mk A30
  clear A30
  obtain rfl := Option.some.inj H
  go_enter Try.func38, Try.ntmps38
  go_wp2_with (first | ((with_reducible refine gate_callee (f := 77) rfl ?_); refine goesL_ (some 7) rfl rfl Try.func77 (by kernel_rfl) rfl #[.int .i64 a0, .slice A1 l1.length c1] rfl (by (try simp only [List.map_toArray, List.map_cons, List.map_nil]); first | done | rfl | (simp only [List.length_drop, List.length_take]; rfl)) ?_; (with_reducible refine (text_Align_MarkdownProperty.calls k a0 _ _ l1 t104 _ ?side1 ?side2 A3.out).mono ?_); (case side1 => repeat (first | exact HR1.out | (with_reducible refine Kd.C_alloc ?_ _) | (with_reducible refine Kd.C_drewN ?_ _) | (with_reducible refine Kd.C_drew ?_))); (case side2 => exact HC1.out); rintro e w4 ⟨rfl, hb⟩; refine ⟨_, rfl, ?_⟩; have n0_ := Aside0.mk (below_step (by repeat (first | (with_reducible first | exact HB.out | apply below_alloc | apply pw_below_drewN | apply below_drew1) | exact HB.out)) hb); clear HB; have HB := n0_; clear n0_; (try clear hb); (try clear hb2); (try clear hk); (try clear hi)))
  go_ret
  exact ⟨by first | rfl | (simp [errW_none, errW_some] <;> rfl) | (simp [*, errW_none, errW_some] <;> rfl), by repeat (first | (with_reducible first | exact HB.out | apply below_alloc | apply pw_below_drewN | apply below_drew1) | exact HB.out)⟩

/-! ### laws_FnTextAlignMarkdownWidth: function 12 -/
def laws_FnTextAlignMarkdownWidth.f (k : Nat) (a0 : Int) (a1 : Int) : Option (Bool) := if a1 < 0 then (some true) else (if a1 > 2000 then (some true) else ((impl_TextAlignMarkdown.f k (wrap64 (Int.tmod a0 6)) (([a1] : List Int))).bind fun t108 => (some ((t108.size : Int) == (wrap64 ((mx a1 3) + 2))))))
theorem laws_FnTextAlignMarkdownWidth.mono : ∀ a0 a1 k, LeO (laws_FnTextAlignMarkdownWidth.f k a0 a1) (laws_FnTextAlignMarkdownWidth.f (k + 1) a0 a1) := by
  intro a0 a1 k
  unfold laws_FnTextAlignMarkdownWidth.f
  repeat' first
      | (with_reducible exact impl_TextAlignMarkdown.mono _ _ _)
      | (with_reducible exact LeO.refl _)
      | (with_reducible exact LeO.none _)
      | (with_reducible refine LeO.ite ?_ ?_)
      | (with_reducible refine LeO.bind ?_ (fun _ => ?_))
      | exact impl_TextAlignMarkdown.mono _ _ _
      | exact LeO.none _
      | refine LeO.ite ?_ ?_
      | refine LeO.bind ?_ (fun _ => ?_)
set_option maxHeartbeats 8000000 in
set_option maxRecDepth 100000 in
theorem laws_FnTextAlignMarkdownWidth.calls (k : Nat) (a0 : Int) (a1 : Int) (r : Bool) (w : World) (h : laws_FnTextAlignMarkdownWidth.f k a0 a1 = some r) :
    Calls Try.prog 12 #[.int .u8 a0, .int .i64 a1] w fun e w' => e = .returned (.bool r) ∧ Below w.heap.size w w' := by
  have HB := Aside0.mk (Below.refl w.heap.size w)
  have H : (if a1 < 0 then (some true) else (if a1 > 2000 then (some true) else ((impl_TextAlignMarkdown.f k (wrap64 (Int.tmod a0 6)) (([a1] : List Int))).bind fun t108 => (some ((t108.size : Int) == (wrap64 ((mx a1 3) + 2))))))) = some r := h
  clear h
  by_cases c3 : a1 < 0
  · rw [if_pos c3] at H
    have c3b0 : decide (a1 < 0) = true := decide_eq_true c3
    clear c3
    obtain rfl := Option.some.inj H
    go_enter Try.func12, Try.ntmps12
    go_wp2
    go_ret
    exact ⟨by first | rfl | (simp [errW_none, errW_some] <;> rfl) | (simp [*, errW_none, errW_some] <;> rfl), by repeat (first | (with_reducible first | exact HB.out | apply below_alloc | apply pw_below_drewN | apply below_drew1) | exact HB.out)⟩
  · rw [if_neg c3] at H
    have c3b0 : decide (a1 < 0) = false := decide_eq_false c3
    clear c3
    by_cases c4 : a1 > 2000
    · rw [if_pos c4] at H
      have c4b0 : decide (2000 < a1) = true := decide_eq_true c4
      clear c4
      obtain rfl := Option.some.inj H
      go_enter Try.func12, Try.ntmps12
      go_wp2
      go_ret
      exact ⟨by first | rfl | (simp [errW_none, errW_some] <;> rfl) | (simp [*, errW_none, errW_some] <;> rfl), by repeat (first | (with_reducible first | exact HB.out | apply below_alloc | apply pw_below_drewN | apply below_drew1) | exact HB.out)⟩
    · rw [if_neg c4] at H
      have c4b0 : decide (2000 < a1) = false := decide_eq_false c4
      clear c4
      obtain ⟨y105, hy105⟩ : ∃ y_ : List Int, y_ = (([a1] : List Int)) := ⟨_, rfl⟩
      replace H : ((impl_TextAlignMarkdown.f k (wrap64 (Int.tmod a0 6)) y105).bind fun t108 => (some ((t108.size : Int) == (wrap64 ((mx a1 3) + 2))))) = some r := by first | (rw [hy105]; with_reducible exact H) | (have H2_ := (Option.bind_some _ _).symm.trans H; rw [hy105]; with_reducible exact H2_) | (have H2_ := (Option.bind_some _ _).symm.trans H; with_reducible exact H2_) | with_reducible exact H | (rw [hy105]; exact H) | exact H
      have Ny105 := Aside0.mk hy105
      clear hy105
      replace H := Option.bind_eq_some_iff.mp H
      obtain ⟨t108, A50, H⟩ := H
      replace H : (some ((t108.size : Int) == (wrap64 ((mx a1 3) + 2)))) = some r := H
      have A5 := Aside0.mk A50
      clear A50
      obtain ⟨ji6, hji6⟩ : ∃ j_ : Int, (mx a1 3) = j_ := ⟨_, rfl⟩
      replace H : (some ((t108.size : Int) == (wrap64 ((ji6) + 2)))) = some r := by first | (rw [hji6] at H; exact H) | (simp only [hji6] at H ⊢; exact H)
      (try rw [hji6] at A5)
      (try (have hji6l : 3 ≤ ji6 := by (rw [← hji6]; unfold mx; (repeat' split) <;> omega)))
      (try (have hji6m : 0 ≤ ji6 := by omega))
      have hji6_ : (if a1 < 3 then 3 else a1) = ji6 := hji6
      obtain rfl := Option.some.inj H
      go_enter Try.func12, Try.ntmps12
      go_wp2_with (first | ((with_reducible refine gate_dst (N := 16) rfl ?_); (try (refine gate_guard (by rfl) ?_; dsimp only)); refine Kd.R_lit (Kd.int .i64) _ 3 ?hg (N := 16) ?hd (xs := ([a1] : List Int)) (inner := [.int .i64 a1]) (ok := fun _ => True) (okp := fun _ => True) ?hr ?hp (fun _ hk => hk) trivial (Below.refl _ _) (Nat.le_refl _) (by simp) ?_; (case hd => rfl); (case hg => rfl); (case hr => first | (go_simp; done) | (go_simp; rfl)); (case hp => exact (Reps.one (show Kd.M (Kd.int .i64) _ _ _ a1 [.int .i64 a1] from rfl) (Reps.none _ _))); intro v106 w7 ho8 hb hg_ hnew_; clear hg_ hnew_; (first | rw [← Ny105.out] at ho8 | (simp only [Int.reduceToNat] at ho8; rw [← Ny105.out] at ho8)); have n0_ := Aside0.mk (Kd.R_lower ho8 (below_size (by repeat (first | (with_reducible first | exact HB.out | apply below_alloc | apply pw_below_drewN | apply below_drew1) | exact HB.out)))); have n1_ := Aside0.mk (below_step (by repeat (first | (with_reducible first | exact HB.out | apply below_alloc | apply pw_below_drewN | apply below_drew1) | exact HB.out)) hb); clear HB; have HO107 := n0_; have HB := n1_; clear n0_ n1_; clear hb ho8; obtain ⟨Ao9, co9, eo9⟩ := Kd.R_slice HO107.out; subst eo9) | (go_at_call 38; (with_reducible refine (impl_TextAlignMarkdown.calls k (wrap64 (Int.tmod a0 6)) _ _ y105 t108 _ ?side1 ?side2 A5.out).mono ?_); (case side1 => repeat (first | exact (Kd.R_reads' HO107.out).2.2 | (with_reducible refine Kd.C_alloc ?_ _) | (with_reducible refine Kd.C_drewN ?_ _) | (with_reducible refine Kd.C_drew ?_))); (case side2 => exact (Kd.R_reads' HO107.out).2.1); rintro e w10 ⟨rfl, hb⟩; have n0_ := Aside0.mk (Kd.R_below (by (with_reducible repeat (first | apply Kd.R_alloc | apply Kd.R_drewN | apply Kd.R_drew)); exact HO107.out) hb); have n1_ := Aside0.mk (below_step (by repeat (first | (with_reducible first | exact HB.out | apply below_alloc | apply pw_below_drewN | apply below_drew1) | exact HB.out)) hb); clear HO107; clear HB; have HO107 := n0_; have HB := n1_; clear n0_ n1_; (try clear hb); (try clear hb2); (try clear hk); (try clear hi)))
      go_ret
      exact ⟨by first | rfl | (simp [errW_none, errW_some] <;> rfl) | (simp only [← hji6]; first | rfl | (simp [errW_none, errW_some] <;> rfl)) | (simp [*, errW_none, errW_some] <;> rfl), by repeat (first | (with_reducible first | exact HB.out | apply below_alloc | apply pw_below_drewN | apply below_drew1) | exact HB.out)⟩

end Go.Proofs.Ytjoagjkmghmnnaa.GFnTextAlignMarkdownWidth
