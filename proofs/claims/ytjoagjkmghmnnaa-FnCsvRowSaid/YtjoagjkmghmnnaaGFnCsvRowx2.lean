-- printed by a program of this session (gprint.py) out of the translation; Lean checks it
import Derived.Test.YtjoagjkmghmnnaaGFnCsvRowx0
import Derived.Test.YtjoagjkmghmnnaaGFnCsvRowx1
import Derived.Test.YtjoagjkmghmnnaaGivenCsv
namespace Go.Proofs.Ytjoagjkmghmnnaa.GFnCsvRow
open Go.RowKit Go.Proofs.YtjoagjkmghmnnaaW.PrintWords Go.Proofs.YtjoagjkmghmnnaaW.PrintLast Go.Proofs.Ytjoagjkmghmnnaa.GivenCsv Go.Proofs.YtjoagjkmghmnnaaW.PrintMore
attribute [local go_sem] max2_int min2_int max_two min_two max_three min_three max_four min_four   -- for this text's walks alone
set_option linter.unusedVariables false
set_option linter.unusedSimpArgs false

/-! ### spec_separated: function 81 -/
mutual
def spec_separated.l0 : Nat → List ByteArray → Int → ByteArray → Bool → Int → ByteArray → Int → Option (ByteArray)
  | 0, _, _, _, _, _, _, _ => none
  | k + 1, x0, x1, x2, x3, x4, x11, x12 => if x12 < (x0.length : Int) then (if x12 = 0 then (spec_separated.j1 k x0 x1 x2 x3 x4 x11 x12 x3) else (spec_separated.j1 k x0 x1 x2 x3 x4 x11 x12 false)) else (spec_separated.l1 k x1 x2 x11 (x0.length : Int))
def spec_separated.j1 : Nat → List ByteArray → Int → ByteArray → Bool → Int → ByteArray → Int → Bool → Option (ByteArray)
  | 0, _, _, _, _, _, _, _, _ => none
  | k + 1, x0, x1, x2, x3, x4, x11, x12, x24 => if x24 = true then ((spec_Decimal.f k x4).bind fun t117 => (if t117.size + x2.size ≤ 9223372036854775807 then (if x12 > 0 then (if (t117 ++ x2).size + x2.size ≤ 9223372036854775807 then (if 0 ≤ x12 then (if x12 < (x0.length : Int) then (if ((t117 ++ x2) ++ x2).size + (rdOf ByteArray.empty x0 x12).size ≤ 9223372036854775807 then (spec_separated.l0 k x0 x1 x2 x3 x4 (((t117 ++ x2) ++ x2) ++ (rdOf ByteArray.empty x0 x12)) (wrap64 (x12 + 1))) else (none)) else (none)) else (none)) else (none)) else (if 0 ≤ x12 then (if x12 < (x0.length : Int) then (if (t117 ++ x2).size + (rdOf ByteArray.empty x0 x12).size ≤ 9223372036854775807 then (spec_separated.l0 k x0 x1 x2 x3 x4 ((t117 ++ x2) ++ (rdOf ByteArray.empty x0 x12)) (wrap64 (x12 + 1))) else (none)) else (none)) else (none))) else (none))) else (if x12 > 0 then (if x11.size + x2.size ≤ 9223372036854775807 then (if 0 ≤ x12 then (if x12 < (x0.length : Int) then (if (x11 ++ x2).size + (rdOf ByteArray.empty x0 x12).size ≤ 9223372036854775807 then (spec_separated.l0 k x0 x1 x2 x3 x4 ((x11 ++ x2) ++ (rdOf ByteArray.empty x0 x12)) (wrap64 (x12 + 1))) else (none)) else (none)) else (none)) else (none)) else (if 0 ≤ x12 then (if x12 < (x0.length : Int) then (if x11.size + (rdOf ByteArray.empty x0 x12).size ≤ 9223372036854775807 then (spec_separated.l0 k x0 x1 x2 x3 x4 (x11 ++ (rdOf ByteArray.empty x0 x12)) (wrap64 (x12 + 1))) else (none)) else (none)) else (none)))
def spec_separated.l1 : Nat → Int → ByteArray → ByteArray → Int → Option (ByteArray)
  | 0, _, _, _, _ => none
  | k + 1, x1, x2, x11, x13 => if x13 < x1 then (if x11.size + x2.size ≤ 9223372036854775807 then (spec_separated.l1 k x1 x2 (x11 ++ x2) (wrap64 (x13 + 1))) else (none)) else (some x11)
end
def spec_separated.f (k : Nat) (l0 : List ByteArray) (a1 : Int) (a2 : ByteArray) (a3 : Bool) (a4 : Int) : Option (ByteArray) := spec_separated.l0 k l0 a1 a2 a3 a4 (⟨#[]⟩ : ByteArray) 0
theorem spec_separated.mono_l : ∀ k, (∀ y0 y1 y2 y3 y4 y5 y6, LeO (spec_separated.l0 k y0 y1 y2 y3 y4 y5 y6) (spec_separated.l0 (k + 1) y0 y1 y2 y3 y4 y5 y6)) ∧ (∀ y0 y1 y2 y3 y4 y5 y6 y7, LeO (spec_separated.j1 k y0 y1 y2 y3 y4 y5 y6 y7) (spec_separated.j1 (k + 1) y0 y1 y2 y3 y4 y5 y6 y7)) ∧ (∀ y0 y1 y2 y3, LeO (spec_separated.l1 k y0 y1 y2 y3) (spec_separated.l1 (k + 1) y0 y1 y2 y3))
  | 0 => ⟨fun _ _ _ _ _ _ _ r h => by simp [spec_separated.l0] at h, fun _ _ _ _ _ _ _ _ r h => by simp [spec_separated.j1] at h, fun _ _ _ _ r h => by simp [spec_separated.l1] at h⟩
  | k + 1 => by
    obtain ⟨ih0, ih1, ih2⟩ := spec_separated.mono_l k
    refine ⟨?_, ?_, ?_⟩
    · intro y0 y1 y2 y3 y4 y5 y6
      unfold spec_separated.l0
      repeat' first
      | (with_reducible exact ih0 _ _ _ _ _ _ _)
      | (with_reducible exact ih1 _ _ _ _ _ _ _ _)
      | (with_reducible exact ih2 _ _ _ _)
      | (with_reducible exact spec_Decimal.mono _ _)
      | (with_reducible exact LeO.refl _)
      | (with_reducible exact LeO.none _)
      | (with_reducible refine LeO.ite ?_ ?_)
      | (with_reducible refine LeO.bind ?_ (fun _ => ?_))
      | exact ih0 _ _ _ _ _ _ _
      | exact ih1 _ _ _ _ _ _ _ _
      | exact ih2 _ _ _ _
      | exact spec_Decimal.mono _ _
      | exact LeO.none _
      | refine LeO.ite ?_ ?_
      | refine LeO.bind ?_ (fun _ => ?_)
    · intro y0 y1 y2 y3 y4 y5 y6 y7
      unfold spec_separated.j1
      repeat' first
      | (with_reducible exact ih0 _ _ _ _ _ _ _)
      | (with_reducible exact ih1 _ _ _ _ _ _ _ _)
      | (with_reducible exact ih2 _ _ _ _)
      | (with_reducible exact spec_Decimal.mono _ _)
      | (with_reducible exact LeO.refl _)
      | (with_reducible exact LeO.none _)
      | (with_reducible refine LeO.ite ?_ ?_)
      | (with_reducible refine LeO.bind ?_ (fun _ => ?_))
      | exact ih0 _ _ _ _ _ _ _
      | exact ih1 _ _ _ _ _ _ _ _
      | exact ih2 _ _ _ _
      | exact spec_Decimal.mono _ _
      | exact LeO.none _
      | refine LeO.ite ?_ ?_
      | refine LeO.bind ?_ (fun _ => ?_)
    · intro y0 y1 y2 y3
      unfold spec_separated.l1
      repeat' first
      | (with_reducible exact ih0 _ _ _ _ _ _ _)
      | (with_reducible exact ih1 _ _ _ _ _ _ _ _)
      | (with_reducible exact ih2 _ _ _ _)
      | (with_reducible exact spec_Decimal.mono _ _)
      | (with_reducible exact LeO.refl _)
      | (with_reducible exact LeO.none _)
      | (with_reducible refine LeO.ite ?_ ?_)
      | (with_reducible refine LeO.bind ?_ (fun _ => ?_))
      | exact ih0 _ _ _ _ _ _ _
      | exact ih1 _ _ _ _ _ _ _ _
      | exact ih2 _ _ _ _
      | exact spec_Decimal.mono _ _
      | exact LeO.none _
      | refine LeO.ite ?_ ?_
      | refine LeO.bind ?_ (fun _ => ?_)
theorem spec_separated.mono : ∀ a0 a1 a2 a3 a4 k, LeO (spec_separated.f k a0 a1 a2 a3 a4) (spec_separated.f (k + 1) a0 a1 a2 a3 a4) := by
  intro a0 a1 a2 a3 a4 k
  obtain ⟨ih0, ih1, ih2⟩ := spec_separated.mono_l k
  unfold spec_separated.f
  repeat' first
      | (with_reducible exact ih0 _ _ _ _ _ _ _)
      | (with_reducible exact ih1 _ _ _ _ _ _ _ _)
      | (with_reducible exact ih2 _ _ _ _)
      | (with_reducible exact spec_Decimal.mono _ _)
      | (with_reducible exact LeO.refl _)
      | (with_reducible exact LeO.none _)
      | (with_reducible refine LeO.ite ?_ ?_)
      | (with_reducible refine LeO.bind ?_ (fun _ => ?_))
      | exact ih0 _ _ _ _ _ _ _
      | exact ih1 _ _ _ _ _ _ _ _
      | exact ih2 _ _ _ _
      | exact spec_Decimal.mono _ _
      | exact LeO.none _
      | refine LeO.ite ?_ ?_
      | refine LeO.bind ?_ (fun _ => ?_)
set_option maxHeartbeats 8000000 in
set_option maxRecDepth 100000 in
theorem spec_separated.calls (k : Nat) (A0 : Option Addr) (c0 : Nat) (l0 : List ByteArray) (a1 : Int) (a2 : ByteArray) (a3 : Bool) (a4 : Int) (r : ByteArray) (w : World) (hr0 : Kd.C Kd.string w A0 l0.length l0) (hc0 : l0.length ≤ c0) (h : spec_separated.f k l0 a1 a2 a3 a4 = some r) :
    Calls Try.prog 81 #[.slice A0 l0.length c0, .int .i64 a1, .string a2, .bool a3, .int .i64 a4] w fun e w' => e = .returned (.string r) ∧ Below w.heap.size w w' := by
  have HR0 := Aside0.mk hr0
  have HC0 := Aside0.mk hc0
  clear hr0 hc0
  have HB := Aside0.mk (Below.refl w.heap.size w)
  have H : (spec_separated.l0 k l0 a1 a2 a3 a4 (⟨#[]⟩ : ByteArray) 0) = some r := h
  clear h
  have H' := Aside0.mk H
  clear H
  go_enter Try.func81, Try.ntmps81
  go_wp2
  go_loopg [11, 12] k (fun kq v11 v12 w' => ∃ (x11_1 : ByteArray) (x12_1 : Int), v11 = .string x11_1 ∧ v12 = .int .i64 x12_1 ∧ Aside0 (spec_separated.l0 kq l0 a1 a2 a3 a4 x11_1 x12_1 = some r) ∧ Aside0 (kq ≤ k) ∧ Aside0 (Below w.heap.size w w'))
  case atStart => exact ⟨((⟨#[]⟩ : ByteArray)), (0), (by first | rfl | (simp; done) | (simp [*]; done)), (by first | rfl | (simp; done) | (simp [*]; done)), H', ⟨Nat.le_refl _⟩, ⟨by repeat (first | (with_reducible first | exact HB.out | apply below_alloc | apply pw_below_drewN | apply below_drew1) | exact HB.out)⟩⟩
  case round =>
    clear H'
    try clear p2
    obtain ⟨x11_1, x12_1, rfl, rfl, HA, HK1, HB⟩ := hrel
    cases gk with
    | zero => exact absurd HA.out (by simp [spec_separated.l0])
    | succ k1 =>
      have H := HA.out
      clear HA
      simp only [spec_separated.l0] at H
      by_cases c6 : x12_1 < (l0.length : Int)
      · rw [if_pos c6] at H
        have c6b0 : decide (x12_1 < (l0.length : Int)) = true := decide_eq_true c6
        clear c6
        have HC7 := Aside0.mk H
        clear H
        go_upto_region 5 with (fail)
        go_cut [24] (fun v24 wc => ∃ (kq : Nat) (x24_6 : Bool), v24 = .bool x24_6 ∧ Aside0 (spec_separated.j1 kq l0 a1 a2 a3 a4 x11_1 x12_1 x24_6 = some r) ∧ Aside0 (kq ≤ k1) ∧ Aside0 (Below w.heap.size w wc))
        case first =>
          have H := HC7.out
          clear HC7
          by_cases c8 : x12_1 = 0
          · rw [if_pos c8] at H
            have c8b0 : (x12_1 == 0) = true := beq_iff_eq.mpr c8
            have c8b1 : (x12_1 != 0) = false := bne_eq_false_iff_eq.mpr c8
            clear c8
            (first | rw [c8b0] | (simp only [i64_w, i32_w]; rw [c8b0]) | skip)
            have H' := Aside0.mk H
            clear H
            go_wp2
            go_meet
            case rel => exact ⟨_, (a3), (by first | rfl | (simp; done) | (simp [*]; done)), H', ⟨by have := HK1.out; first | omega | exact Nat.le_refl _⟩, ⟨by repeat (first | (with_reducible first | exact HB.out | apply below_alloc | apply pw_below_drewN | apply below_drew1) | exact HB.out)⟩⟩
          · rw [if_neg c8] at H
            have c8b0 : (x12_1 == 0) = false := beq_eq_false_iff_ne.mpr c8
            have c8b1 : (x12_1 != 0) = true := bne_iff_ne.mpr c8
            (first | rw [c8b0] | (simp only [i64_w, i32_w]; rw [c8b0]) | skip)
            have H' := Aside0.mk H
            clear H
            go_wp2
            go_meet
            case rel => exact ⟨_, (false), (by first | rfl | (simp; done) | (simp [*]; done)), H', ⟨by have := HK1.out; first | omega | exact Nat.le_refl _⟩, ⟨by repeat (first | (with_reducible first | exact HB.out | apply below_alloc | apply pw_below_drewN | apply below_drew1) | exact HB.out)⟩⟩
        case rest =>
          clear HC7
          try clear p2
          try clear c6
          try clear c6b0
          try clear c8
          try clear c8b0
          try clear c8b1
          try clear p2
          obtain ⟨kq, x24_6, rfl, HA, HJ6, HB⟩ := hcut
          cases kq with
          | zero => exact absurd HA.out (by simp [spec_separated.j1])
          | succ kj6 =>
            have H := HA.out
            clear HA
            simp only [spec_separated.j1] at H
            by_cases c9 : x24_6 = true
            · subst c9
              have H1 : ((spec_Decimal.f kj6 a4).bind fun t117 => (if t117.size + a2.size ≤ 9223372036854775807 then (if x12_1 > 0 then (if (t117 ++ a2).size + a2.size ≤ 9223372036854775807 then (if 0 ≤ x12_1 then (if x12_1 < (l0.length : Int) then (if ((t117 ++ a2) ++ a2).size + (rdOf ByteArray.empty l0 x12_1).size ≤ 9223372036854775807 then (spec_separated.l0 kj6 l0 a1 a2 a3 a4 (((t117 ++ a2) ++ a2) ++ (rdOf ByteArray.empty l0 x12_1)) (wrap64 (x12_1 + 1))) else (none)) else (none)) else (none)) else (none)) else (if 0 ≤ x12_1 then (if x12_1 < (l0.length : Int) then (if (t117 ++ a2).size + (rdOf ByteArray.empty l0 x12_1).size ≤ 9223372036854775807 then (spec_separated.l0 kj6 l0 a1 a2 a3 a4 ((t117 ++ a2) ++ (rdOf ByteArray.empty l0 x12_1)) (wrap64 (x12_1 + 1))) else (none)) else (none)) else (none))) else (none))) = some r := by rw [if_pos rfl] at H; exact H
              clear H
              have H := H1
              clear H1
              replace H := Option.bind_eq_some_iff.mp H
              obtain ⟨t117, A100, H⟩ := H
              replace H : (if t117.size + a2.size ≤ 9223372036854775807 then (if x12_1 > 0 then (if (t117 ++ a2).size + a2.size ≤ 9223372036854775807 then (if 0 ≤ x12_1 then (if x12_1 < (l0.length : Int) then (if ((t117 ++ a2) ++ a2).size + (rdOf ByteArray.empty l0 x12_1).size ≤ 9223372036854775807 then (spec_separated.l0 kj6 l0 a1 a2 a3 a4 (((t117 ++ a2) ++ a2) ++ (rdOf ByteArray.empty l0 x12_1)) (wrap64 (x12_1 + 1))) else (none)) else (none)) else (none)) else (none)) else (if 0 ≤ x12_1 then (if x12_1 < (l0.length : Int) then (if (t117 ++ a2).size + (rdOf ByteArray.empty l0 x12_1).size ≤ 9223372036854775807 then (spec_separated.l0 kj6 l0 a1 a2 a3 a4 ((t117 ++ a2) ++ (rdOf ByteArray.empty l0 x12_1)) (wrap64 (x12_1 + 1))) else (none)) else (none)) else (none))) else (none)) = some r := H
              have A10 := Aside0.mk A100
              clear A100
              by_cases c11 : t117.size + a2.size ≤ 9223372036854775807
              · rw [if_pos c11] at H
                have c11b0 := eq_true c11
                have c11b1 : decide (t117.size + a2.size ≤ 9223372036854775807) = true := decide_eq_true c11
                try have c11b2 : (9223372036854775807 < t117.size + a2.size) = False := eq_false (Nat.not_lt.2 c11)
                by_cases c12 : x12_1 > 0
                · rw [if_pos c12] at H
                  have c12b0 : decide (0 < x12_1) = true := decide_eq_true c12
                  clear c12
                  by_cases c13 : (t117 ++ a2).size + a2.size ≤ 9223372036854775807
                  · rw [if_pos c13] at H
                    have c13b0 := eq_true c13
                    have c13b1 : decide ((t117 ++ a2).size + a2.size ≤ 9223372036854775807) = true := decide_eq_true c13
                    try have c13b2 : (9223372036854775807 < (t117 ++ a2).size + a2.size) = False := eq_false (Nat.not_lt.2 c13)
                    try have c13b3 : (9223372036854775807 < t117.size + a2.size + a2.size) = False := eq_false (by have e_ : ((t117 ++ a2).size + a2.size) = (t117.size + a2.size + a2.size) := (by (simp only [ByteArray.size_append]; first | done | rfl)); have z_ := c13; rw [e_] at z_; omega)
                    by_cases c14 : 0 ≤ x12_1
                    · rw [if_pos c14] at H
                      have c14b0 : decide (0 ≤ x12_1) = true := decide_eq_true c14
                      clear c14
                      by_cases c15 : x12_1 < (l0.length : Int)
                      · rw [if_pos c15] at H
                        have c15b0 : decide (x12_1 < (l0.length : Int)) = true := decide_eq_true c15
                        clear c15
                        by_cases c16 : ((t117 ++ a2) ++ a2).size + (rdOf ByteArray.empty l0 x12_1).size ≤ 9223372036854775807
                        · rw [if_pos c16] at H
                          have c16b0 := eq_true c16
                          have c16b1 : decide (((t117 ++ a2) ++ a2).size + (rdOf ByteArray.empty l0 x12_1).size ≤ 9223372036854775807) = true := decide_eq_true c16
                          try have c16b2 : (9223372036854775807 < ((t117 ++ a2) ++ a2).size + (rdOf ByteArray.empty l0 x12_1).size) = False := eq_false (Nat.not_lt.2 c16)
                          try have c16b3 : (9223372036854775807 < t117.size + a2.size + a2.size + (rdOf ByteArray.empty l0 x12_1).size) = False := eq_false (by have e_ : (((t117 ++ a2) ++ a2).size + (rdOf ByteArray.empty l0 x12_1).size) = (t117.size + a2.size + a2.size + (rdOf ByteArray.empty l0 x12_1).size) := (by (simp only [ByteArray.size_append]; first | done | rfl)); have z_ := c16; rw [e_] at z_; omega)
                          have H' := Aside0.mk H
                          clear H
                          go_wp2_with (first | ((with_reducible refine gate_callee (f := 119) rfl ?_); refine goesL_ (some 26) rfl rfl Try.func119 (by kernel_rfl) rfl #[.int .i64 a4] rfl (by (try simp only [List.map_toArray, List.map_cons, List.map_nil]); first | done | rfl | (simp only [List.length_drop, List.length_take]; rfl)) ?_; (with_reducible refine (spec_Decimal.calls kj6 a4 t117 _ A10.out).mono ?_); rintro e w17 ⟨rfl, hb⟩; refine ⟨_, rfl, ?_⟩; have n0_ := Aside0.mk (below_step (by repeat (first | (with_reducible first | exact HB.out | apply below_alloc | apply pw_below_drewN | apply below_drew1) | exact HB.out)) hb); clear HB; have HB := n0_; clear n0_; (try clear hb); (try clear hb2); (try clear hk); (try clear hi); have p118 : 0 ≤ (x12_1 : Int) := of_decide_eq_true (by first | (with_reducible assumption) | assumption); have q118 : x12_1 < (l0.length : Int) := of_decide_eq_true (by first | (with_reducible assumption) | assumption); obtain ⟨ad118, e118, hx118_0⟩ := Kd.at_string HR0.out x12_1 p118 q118; cases e118; replace hx118_0 := (HB.out.cell (World.block_lt_of_cell? w _ hx118_0)).trans hx118_0; replace p118 := eq_true p118; replace q118 := eq_true q118))
                          go_roundg kj6
                          case measure => have := HK1.out; have := HJ6.out; omega
                          case rel => exact ⟨(((t117 ++ a2) ++ a2) ++ (rdOf ByteArray.empty l0 x12_1)), (wrap64 (x12_1 + 1)), (by first | rfl | (simp; done) | (simp [*]; done)), (by first | rfl | (simp; done) | (simp [*]; done)), H', ⟨by have := HK1.out; have := HJ6.out; omega⟩, ⟨by repeat (first | (with_reducible first | exact HB.out | apply below_alloc | apply pw_below_drewN | apply below_drew1) | exact HB.out)⟩⟩
                        · rw [if_neg c16] at H
                          exact absurd H (by simp)
                      · rw [if_neg c15] at H
                        exact absurd H (by simp)
                    · rw [if_neg c14] at H
                      exact absurd H (by simp)
                  · rw [if_neg c13] at H
                    exact absurd H (by simp)
                · rw [if_neg c12] at H
                  have c12b0 : decide (0 < x12_1) = false := decide_eq_false c12
                  clear c12
                  by_cases c18 : 0 ≤ x12_1
                  · rw [if_pos c18] at H
                    have c18b0 : decide (0 ≤ x12_1) = true := decide_eq_true c18
                    clear c18
                    by_cases c19 : x12_1 < (l0.length : Int)
                    · rw [if_pos c19] at H
                      have c19b0 : decide (x12_1 < (l0.length : Int)) = true := decide_eq_true c19
                      clear c19
                      by_cases c20 : (t117 ++ a2).size + (rdOf ByteArray.empty l0 x12_1).size ≤ 9223372036854775807
                      · rw [if_pos c20] at H
                        have c20b0 := eq_true c20
                        have c20b1 : decide ((t117 ++ a2).size + (rdOf ByteArray.empty l0 x12_1).size ≤ 9223372036854775807) = true := decide_eq_true c20
                        try have c20b2 : (9223372036854775807 < (t117 ++ a2).size + (rdOf ByteArray.empty l0 x12_1).size) = False := eq_false (Nat.not_lt.2 c20)
                        try have c20b3 : (9223372036854775807 < t117.size + a2.size + (rdOf ByteArray.empty l0 x12_1).size) = False := eq_false (by have e_ : ((t117 ++ a2).size + (rdOf ByteArray.empty l0 x12_1).size) = (t117.size + a2.size + (rdOf ByteArray.empty l0 x12_1).size) := (by (simp only [ByteArray.size_append]; first | done | rfl)); have z_ := c20; rw [e_] at z_; omega)
                        have H' := Aside0.mk H
                        clear H
                        go_wp2_with (first | ((with_reducible refine gate_callee (f := 119) rfl ?_); refine goesL_ (some 26) rfl rfl Try.func119 (by kernel_rfl) rfl #[.int .i64 a4] rfl (by (try simp only [List.map_toArray, List.map_cons, List.map_nil]); first | done | rfl | (simp only [List.length_drop, List.length_take]; rfl)) ?_; (with_reducible refine (spec_Decimal.calls kj6 a4 t117 _ A10.out).mono ?_); rintro e w21 ⟨rfl, hb⟩; refine ⟨_, rfl, ?_⟩; have n0_ := Aside0.mk (below_step (by repeat (first | (with_reducible first | exact HB.out | apply below_alloc | apply pw_below_drewN | apply below_drew1) | exact HB.out)) hb); clear HB; have HB := n0_; clear n0_; (try clear hb); (try clear hb2); (try clear hk); (try clear hi); have p119 : 0 ≤ (x12_1 : Int) := of_decide_eq_true (by first | (with_reducible assumption) | assumption); have q119 : x12_1 < (l0.length : Int) := of_decide_eq_true (by first | (with_reducible assumption) | assumption); obtain ⟨ad119, e119, hx119_0⟩ := Kd.at_string HR0.out x12_1 p119 q119; cases e119; replace hx119_0 := (HB.out.cell (World.block_lt_of_cell? w _ hx119_0)).trans hx119_0; replace p119 := eq_true p119; replace q119 := eq_true q119))
                        go_roundg kj6
                        case measure => have := HK1.out; have := HJ6.out; omega
                        case rel => exact ⟨((t117 ++ a2) ++ (rdOf ByteArray.empty l0 x12_1)), (wrap64 (x12_1 + 1)), (by first | rfl | (simp; done) | (simp [*]; done)), (by first | rfl | (simp; done) | (simp [*]; done)), H', ⟨by have := HK1.out; have := HJ6.out; omega⟩, ⟨by repeat (first | (with_reducible first | exact HB.out | apply below_alloc | apply pw_below_drewN | apply below_drew1) | exact HB.out)⟩⟩
                      · rw [if_neg c20] at H
                        exact absurd H (by simp)
                    · rw [if_neg c19] at H
                      exact absurd H (by simp)
                  · rw [if_neg c18] at H
                    exact absurd H (by simp)
              · rw [if_neg c11] at H
                exact absurd H (by simp)
            · replace c9 := Bool.eq_false_iff.mpr c9
              subst c9
              have H1 : (if x12_1 > 0 then (if x11_1.size + a2.size ≤ 9223372036854775807 then (if 0 ≤ x12_1 then (if x12_1 < (l0.length : Int) then (if (x11_1 ++ a2).size + (rdOf ByteArray.empty l0 x12_1).size ≤ 9223372036854775807 then (spec_separated.l0 kj6 l0 a1 a2 a3 a4 ((x11_1 ++ a2) ++ (rdOf ByteArray.empty l0 x12_1)) (wrap64 (x12_1 + 1))) else (none)) else (none)) else (none)) else (none)) else (if 0 ≤ x12_1 then (if x12_1 < (l0.length : Int) then (if x11_1.size + (rdOf ByteArray.empty l0 x12_1).size ≤ 9223372036854775807 then (spec_separated.l0 kj6 l0 a1 a2 a3 a4 (x11_1 ++ (rdOf ByteArray.empty l0 x12_1)) (wrap64 (x12_1 + 1))) else (none)) else (none)) else (none))) = some r := by rw [if_neg (show ¬ (false = true) by decide)] at H; exact H
              clear H
              have H := H1
              clear H1
              by_cases c22 : x12_1 > 0
              · rw [if_pos c22] at H
                have c22b0 : decide (0 < x12_1) = true := decide_eq_true c22
                clear c22
                by_cases c23 : x11_1.size + a2.size ≤ 9223372036854775807
                · rw [if_pos c23] at H
                  have c23b0 := eq_true c23
                  have c23b1 : decide (x11_1.size + a2.size ≤ 9223372036854775807) = true := decide_eq_true c23
                  try have c23b2 : (9223372036854775807 < x11_1.size + a2.size) = False := eq_false (Nat.not_lt.2 c23)
                  by_cases c24 : 0 ≤ x12_1
                  · rw [if_pos c24] at H
                    have c24b0 : decide (0 ≤ x12_1) = true := decide_eq_true c24
                    clear c24
                    by_cases c25 : x12_1 < (l0.length : Int)
                    · rw [if_pos c25] at H
                      have c25b0 : decide (x12_1 < (l0.length : Int)) = true := decide_eq_true c25
                      clear c25
                      by_cases c26 : (x11_1 ++ a2).size + (rdOf ByteArray.empty l0 x12_1).size ≤ 9223372036854775807
                      · rw [if_pos c26] at H
                        have c26b0 := eq_true c26
                        have c26b1 : decide ((x11_1 ++ a2).size + (rdOf ByteArray.empty l0 x12_1).size ≤ 9223372036854775807) = true := decide_eq_true c26
                        try have c26b2 : (9223372036854775807 < (x11_1 ++ a2).size + (rdOf ByteArray.empty l0 x12_1).size) = False := eq_false (Nat.not_lt.2 c26)
                        try have c26b3 : (9223372036854775807 < x11_1.size + a2.size + (rdOf ByteArray.empty l0 x12_1).size) = False := eq_false (by have e_ : ((x11_1 ++ a2).size + (rdOf ByteArray.empty l0 x12_1).size) = (x11_1.size + a2.size + (rdOf ByteArray.empty l0 x12_1).size) := (by (simp only [ByteArray.size_append]; first | done | rfl)); have z_ := c26; rw [e_] at z_; omega)
                        have H' := Aside0.mk H
                        clear H
                        have p120 : 0 ≤ (x12_1 : Int) := of_decide_eq_true (by first | (with_reducible assumption) | assumption)
                        have q120 : x12_1 < (l0.length : Int) := of_decide_eq_true (by first | (with_reducible assumption) | assumption)
                        obtain ⟨ad120, e120, hx120_0⟩ := Kd.at_string HR0.out x12_1 p120 q120
                        cases e120
                        replace hx120_0 := (HB.out.cell (World.block_lt_of_cell? w _ hx120_0)).trans hx120_0
                        replace p120 := eq_true p120
                        replace q120 := eq_true q120
                        go_wp2
                        go_roundg kj6
                        case measure => have := HK1.out; have := HJ6.out; omega
                        case rel => exact ⟨((x11_1 ++ a2) ++ (rdOf ByteArray.empty l0 x12_1)), (wrap64 (x12_1 + 1)), (by first | rfl | (simp; done) | (simp [*]; done)), (by first | rfl | (simp; done) | (simp [*]; done)), H', ⟨by have := HK1.out; have := HJ6.out; omega⟩, ⟨by repeat (first | (with_reducible first | exact HB.out | apply below_alloc | apply pw_below_drewN | apply below_drew1) | exact HB.out)⟩⟩
                      · rw [if_neg c26] at H
                        exact absurd H (by simp)
                    · rw [if_neg c25] at H
                      exact absurd H (by simp)
                  · rw [if_neg c24] at H
                    exact absurd H (by simp)
                · rw [if_neg c23] at H
                  exact absurd H (by simp)
              · rw [if_neg c22] at H
                have c22b0 : decide (0 < x12_1) = false := decide_eq_false c22
                clear c22
                by_cases c27 : 0 ≤ x12_1
                · rw [if_pos c27] at H
                  have c27b0 : decide (0 ≤ x12_1) = true := decide_eq_true c27
                  clear c27
                  by_cases c28 : x12_1 < (l0.length : Int)
                  · rw [if_pos c28] at H
                    have c28b0 : decide (x12_1 < (l0.length : Int)) = true := decide_eq_true c28
                    clear c28
                    by_cases c29 : x11_1.size + (rdOf ByteArray.empty l0 x12_1).size ≤ 9223372036854775807
                    · rw [if_pos c29] at H
                      have c29b0 := eq_true c29
                      have c29b1 : decide (x11_1.size + (rdOf ByteArray.empty l0 x12_1).size ≤ 9223372036854775807) = true := decide_eq_true c29
                      try have c29b2 : (9223372036854775807 < x11_1.size + (rdOf ByteArray.empty l0 x12_1).size) = False := eq_false (Nat.not_lt.2 c29)
                      have H' := Aside0.mk H
                      clear H
                      have p121 : 0 ≤ (x12_1 : Int) := of_decide_eq_true (by first | (with_reducible assumption) | assumption)
                      have q121 : x12_1 < (l0.length : Int) := of_decide_eq_true (by first | (with_reducible assumption) | assumption)
                      obtain ⟨ad121, e121, hx121_0⟩ := Kd.at_string HR0.out x12_1 p121 q121
                      cases e121
                      replace hx121_0 := (HB.out.cell (World.block_lt_of_cell? w _ hx121_0)).trans hx121_0
                      replace p121 := eq_true p121
                      replace q121 := eq_true q121
                      go_wp2
                      go_roundg kj6
                      case measure => have := HK1.out; have := HJ6.out; omega
                      case rel => exact ⟨(x11_1 ++ (rdOf ByteArray.empty l0 x12_1)), (wrap64 (x12_1 + 1)), (by first | rfl | (simp; done) | (simp [*]; done)), (by first | rfl | (simp; done) | (simp [*]; done)), H', ⟨by have := HK1.out; have := HJ6.out; omega⟩, ⟨by repeat (first | (with_reducible first | exact HB.out | apply below_alloc | apply pw_below_drewN | apply below_drew1) | exact HB.out)⟩⟩
                    · rw [if_neg c29] at H
                      exact absurd H (by simp)
                  · rw [if_neg c28] at H
                    exact absurd H (by simp)
                · rw [if_neg c27] at H
                  exact absurd H (by simp)
      · rw [if_neg c6] at H
        have c6b0 : decide (x12_1 < (l0.length : Int)) = false := decide_eq_false c6
        clear c6
        have H' := Aside0.mk H
        clear H
        go_wp2
        go_loopg [11, 13] k1 (fun kq v11 v13 w' => ∃ (x11_2 : ByteArray) (x13_2 : Int), v11 = .string x11_2 ∧ v13 = .int .i64 x13_2 ∧ Aside0 (spec_separated.l1 kq a1 a2 x11_2 x13_2 = some r) ∧ Aside0 (kq ≤ k1) ∧ Aside0 (Below w.heap.size w w'))
        case atStart => exact ⟨(x11_1), ((l0.length : Int)), (by first | rfl | (simp; done) | (simp [*]; done)), (by first | rfl | (simp; done) | (simp [*]; done)), H', ⟨Nat.le_refl _⟩, ⟨by repeat (first | (with_reducible first | exact HB.out | apply below_alloc | apply pw_below_drewN | apply below_drew1) | exact HB.out)⟩⟩
        case round =>
          clear H'
          try clear c1
          try clear p1
          try clear q1
          try clear hx1
          try clear c2
          try clear p2
          try clear c6
          try clear c6b0
          try clear p6
          try clear c8
          try clear c8b0
          try clear c8b1
          try clear c9
          try clear c11
          try clear c11b0
          try clear c11b1
          try clear c11b2
          try clear p11
          try clear q11
          try clear hx11
          try clear c12
          try clear c12b0
          try clear p12
          try clear q12
          try clear hx12
          try clear c13
          try clear c13b0
          try clear c13b1
          try clear c13b2
          try clear c14
          try clear c14b0
          try clear c15
          try clear c15b0
          try clear c16
          try clear c16b0
          try clear c16b1
          try clear c16b2
          try clear c18
          try clear c18b0
          try clear c19
          try clear c19b0
          try clear c20
          try clear c20b0
          try clear c20b1
          try clear c20b2
          try clear c22
          try clear c22b0
          try clear c23
          try clear c23b0
          try clear c23b1
          try clear c23b2
          try clear c24
          try clear c24b0
          try clear c25
          try clear c25b0
          try clear c26
          try clear c26b0
          try clear c26b1
          try clear c26b2
          try clear c27
          try clear c27b0
          try clear c28
          try clear c28b0
          try clear c29
          try clear c29b0
          try clear c29b1
          try clear c29b2
          try clear hx118_0
          try clear hx119_0
          try clear hx120_0
          try clear hx121_0
          try clear p118
          try clear p119
          try clear p120
          try clear p121
          try clear p2
          try clear q118
          try clear q119
          try clear q120
          try clear q121
          obtain ⟨x11_2, x13_2, rfl, rfl, HA, HK2, HB⟩ := hrel
          cases gk with
          | zero => exact absurd HA.out (by simp [spec_separated.l1])
          | succ k2 =>
            have H := HA.out
            clear HA
            simp only [spec_separated.l1] at H
            by_cases c30 : x13_2 < a1
            · rw [if_pos c30] at H
              have c30b0 : decide (x13_2 < a1) = true := decide_eq_true c30
              clear c30
              by_cases c31 : x11_2.size + a2.size ≤ 9223372036854775807
              · rw [if_pos c31] at H
                have c31b0 := eq_true c31
                have c31b1 : decide (x11_2.size + a2.size ≤ 9223372036854775807) = true := decide_eq_true c31
                try have c31b2 : (9223372036854775807 < x11_2.size + a2.size) = False := eq_false (Nat.not_lt.2 c31)
                have H' := Aside0.mk H
                clear H
                go_wp2
                go_roundg k2
                case measure => have := HK1.out; have := HK2.out; omega
                case rel => exact ⟨(x11_2 ++ a2), (wrap64 (x13_2 + 1)), (by first | rfl | (simp; done) | (simp [*]; done)), (by first | rfl | (simp; done) | (simp [*]; done)), H', ⟨by have := HK1.out; have := HK2.out; omega⟩, ⟨by repeat (first | (with_reducible first | exact HB.out | apply below_alloc | apply pw_below_drewN | apply below_drew1) | exact HB.out)⟩⟩
              · rw [if_neg c31] at H
                exact absurd H (by simp)
            · rw [if_neg c30] at H
              have c30b0 : decide (x13_2 < a1) = false := decide_eq_false c30
              clear c30
              obtain rfl := Option.some.inj H
              go_wp2
              go_ret
              exact ⟨by first | rfl | (simp [errW_none, errW_some] <;> rfl) | (simp [*, errW_none, errW_some] <;> rfl), by repeat (first | (with_reducible first | exact HB.out | apply below_alloc | apply pw_below_drewN | apply below_drew1) | exact HB.out)⟩

end Go.Proofs.Ytjoagjkmghmnnaa.GFnCsvRow
