-- printed by a program of this session (gprint.py) out of the translation; Lean checks it
import Derived.Test.YtphnnbbgcnilgaaGFnListHTMLx0
import Derived.Test.YtphnnbbgcnilgaaGFnListHTMLx3
import Derived.Test.YtphnnbbgcnilgaaGivenHtml
namespace Go.Proofs.Ytphnnbbgcnilgaa.GFnListHTML
open Go.RowKit Go.Proofs.YtphnnbbgcnilgaaW.PrintWords Go.Proofs.YtphnnbbgcnilgaaW.PrintLast Go.Proofs.Ytphnnbbgcnilgaa.GivenHtml Go.Proofs.YtphnnbbgcnilgaaW.PrintMore
attribute [local go_sem] max2_int min2_int max_two min_two max_three min_three max_four min_four   -- for this text's walks alone
set_option linter.unusedVariables false
set_option linter.unusedSimpArgs false

/-! ### spec_LsHTML: function 12 -/
mutual
def spec_LsHTML.l0 : Nat → ByteArray → ByteArray → Int → List (S49) → Int → Int → Option (ByteArray)
  | 0, _, _, _, _, _, _ => none
  | k + 1, x1, x5, x6, x12, x13, x14 => if x14 < x13 then (if 0 ≤ x14 then (if x14 < (x12.length : Int) then (spec_LsHTML.l1 k x1 x5 x6 x12 x13 x14 ((rd_T49 x12 x14).f0) ((rd_T49 x12 x14).f1)) else (none)) else (none)) else (spec_LsHTML.l3 k x5 x6)
def spec_LsHTML.l1 : Nat → ByteArray → ByteArray → Int → List (S49) → Int → Int → ByteArray → Int → Option (ByteArray)
  | 0, _, _, _, _, _, _, _, _ => none
  | k + 1, x1, x5, x6, x12, x13, x14, x141000, x141001 => if x6 < x141001 then ((spec_TxTimes.f (⟨#[32, 32]⟩ : ByteArray) (wrap64 (x6 + 1))).bind fun t141 => (if 1 + t141.size ≤ 9223372036854775807 then (if ((⟨#[10]⟩ : ByteArray) ++ t141).size + 11 ≤ 9223372036854775807 then (if (((⟨#[10]⟩ : ByteArray) ++ t141) ++ (⟨#[60, 117, 108, 32, 99, 108, 97, 115, 115, 61, 34]⟩ : ByteArray)).size + x1.size ≤ 9223372036854775807 then (if ((((⟨#[10]⟩ : ByteArray) ++ t141) ++ (⟨#[60, 117, 108, 32, 99, 108, 97, 115, 115, 61, 34]⟩ : ByteArray)) ++ x1).size + 1 ≤ 9223372036854775807 then ((spec_Decimal.f k (wrap64 (x6 + 1))).bind fun t142 => (if (((((⟨#[10]⟩ : ByteArray) ++ t141) ++ (⟨#[60, 117, 108, 32, 99, 108, 97, 115, 115, 61, 34]⟩ : ByteArray)) ++ x1) ++ (⟨#[45]⟩ : ByteArray)).size + t142.size ≤ 9223372036854775807 then (if ((((((⟨#[10]⟩ : ByteArray) ++ t141) ++ (⟨#[60, 117, 108, 32, 99, 108, 97, 115, 115, 61, 34]⟩ : ByteArray)) ++ x1) ++ (⟨#[45]⟩ : ByteArray)) ++ t142).size + 2 ≤ 9223372036854775807 then (if x5.size + (((((((⟨#[10]⟩ : ByteArray) ++ t141) ++ (⟨#[60, 117, 108, 32, 99, 108, 97, 115, 115, 61, 34]⟩ : ByteArray)) ++ x1) ++ (⟨#[45]⟩ : ByteArray)) ++ t142) ++ (⟨#[34, 62]⟩ : ByteArray)).size ≤ 9223372036854775807 then (spec_LsHTML.l1 k x1 (x5 ++ (((((((⟨#[10]⟩ : ByteArray) ++ t141) ++ (⟨#[60, 117, 108, 32, 99, 108, 97, 115, 115, 61, 34]⟩ : ByteArray)) ++ x1) ++ (⟨#[45]⟩ : ByteArray)) ++ t142) ++ (⟨#[34, 62]⟩ : ByteArray))) (wrap64 (x6 + 1)) x12 x13 x14 x141000 x141001) else (none)) else (none)) else (none))) else (none)) else (none)) else (none)) else (none))) else (spec_LsHTML.l2 k x1 x5 x6 x12 x13 x14 x141000 x141001)
def spec_LsHTML.l2 : Nat → ByteArray → ByteArray → Int → List (S49) → Int → Int → ByteArray → Int → Option (ByteArray)
  | 0, _, _, _, _, _, _, _, _ => none
  | k + 1, x1, x5, x6, x12, x13, x14, x141000, x141001 => if x6 > x141001 then ((spec_TxTimes.f (⟨#[32, 32]⟩ : ByteArray) x6).bind fun t143 => (if 1 + t143.size ≤ 9223372036854775807 then (if ((⟨#[10]⟩ : ByteArray) ++ t143).size + 5 ≤ 9223372036854775807 then (if x5.size + (((⟨#[10]⟩ : ByteArray) ++ t143) ++ (⟨#[60, 47, 117, 108, 62]⟩ : ByteArray)).size ≤ 9223372036854775807 then (spec_LsHTML.l2 k x1 (x5 ++ (((⟨#[10]⟩ : ByteArray) ++ t143) ++ (⟨#[60, 47, 117, 108, 62]⟩ : ByteArray))) (wrap64 (x6 - 1)) x12 x13 x14 x141000 x141001) else (none)) else (none)) else (none))) else ((spec_TxTimes.f (⟨#[32, 32]⟩ : ByteArray) (wrap64 (x6 + 1))).bind fun t144 => (if 1 + t144.size ≤ 9223372036854775807 then (if ((⟨#[10]⟩ : ByteArray) ++ t144).size + 4 ≤ 9223372036854775807 then (if (((⟨#[10]⟩ : ByteArray) ++ t144) ++ (⟨#[60, 108, 105, 62]⟩ : ByteArray)).size + x141000.size ≤ 9223372036854775807 then (if ((((⟨#[10]⟩ : ByteArray) ++ t144) ++ (⟨#[60, 108, 105, 62]⟩ : ByteArray)) ++ x141000).size + 5 ≤ 9223372036854775807 then (if x5.size + (((((⟨#[10]⟩ : ByteArray) ++ t144) ++ (⟨#[60, 108, 105, 62]⟩ : ByteArray)) ++ x141000) ++ (⟨#[60, 47, 108, 105, 62]⟩ : ByteArray)).size ≤ 9223372036854775807 then (spec_LsHTML.l0 k x1 (x5 ++ (((((⟨#[10]⟩ : ByteArray) ++ t144) ++ (⟨#[60, 108, 105, 62]⟩ : ByteArray)) ++ x141000) ++ (⟨#[60, 47, 108, 105, 62]⟩ : ByteArray))) x6 x12 x13 (wrap64 (x14 + 1))) else (none)) else (none)) else (none)) else (none)) else (none)))
def spec_LsHTML.l3 : Nat → ByteArray → Int → Option (ByteArray)
  | 0, _, _ => none
  | k + 1, x5, x6 => if x6 > 0 then ((spec_TxTimes.f (⟨#[32, 32]⟩ : ByteArray) x6).bind fun t145 => (if 1 + t145.size ≤ 9223372036854775807 then (if ((⟨#[10]⟩ : ByteArray) ++ t145).size + 5 ≤ 9223372036854775807 then (if x5.size + (((⟨#[10]⟩ : ByteArray) ++ t145) ++ (⟨#[60, 47, 117, 108, 62]⟩ : ByteArray)).size ≤ 9223372036854775807 then (spec_LsHTML.l3 k (x5 ++ (((⟨#[10]⟩ : ByteArray) ++ t145) ++ (⟨#[60, 47, 117, 108, 62]⟩ : ByteArray))) (wrap64 (x6 - 1))) else (none)) else (none)) else (none))) else (if x5.size + 6 ≤ 9223372036854775807 then (some (x5 ++ (⟨#[10, 60, 47, 117, 108, 62]⟩ : ByteArray))) else (none))
end
def spec_LsHTML.f (k : Nat) (l0 : List (S49)) (a1 : ByteArray) : Option (ByteArray) := if 11 + a1.size ≤ 9223372036854775807 then (if ((⟨#[60, 117, 108, 32, 99, 108, 97, 115, 115, 61, 34]⟩ : ByteArray) ++ a1).size + 2 ≤ 9223372036854775807 then (spec_LsHTML.l0 k a1 (((⟨#[60, 117, 108, 32, 99, 108, 97, 115, 115, 61, 34]⟩ : ByteArray) ++ a1) ++ (⟨#[34, 62]⟩ : ByteArray)) 0 l0 (l0.length : Int) 0) else (none)) else (none)
theorem spec_LsHTML.mono_l : ∀ k, (∀ y0 y1 y2 y3 y4 y5, LeO (spec_LsHTML.l0 k y0 y1 y2 y3 y4 y5) (spec_LsHTML.l0 (k + 1) y0 y1 y2 y3 y4 y5)) ∧ (∀ y0 y1 y2 y3 y4 y5 y6 y7, LeO (spec_LsHTML.l1 k y0 y1 y2 y3 y4 y5 y6 y7) (spec_LsHTML.l1 (k + 1) y0 y1 y2 y3 y4 y5 y6 y7)) ∧ (∀ y0 y1 y2 y3 y4 y5 y6 y7, LeO (spec_LsHTML.l2 k y0 y1 y2 y3 y4 y5 y6 y7) (spec_LsHTML.l2 (k + 1) y0 y1 y2 y3 y4 y5 y6 y7)) ∧ (∀ y0 y1, LeO (spec_LsHTML.l3 k y0 y1) (spec_LsHTML.l3 (k + 1) y0 y1))
  | 0 => ⟨fun _ _ _ _ _ _ r h => by simp [spec_LsHTML.l0] at h, fun _ _ _ _ _ _ _ _ r h => by simp [spec_LsHTML.l1] at h, fun _ _ _ _ _ _ _ _ r h => by simp [spec_LsHTML.l2] at h, fun _ _ r h => by simp [spec_LsHTML.l3] at h⟩
  | k + 1 => by
    obtain ⟨ih0, ih1, ih2, ih3⟩ := spec_LsHTML.mono_l k
    refine ⟨?_, ?_, ?_, ?_⟩
    · intro y0 y1 y2 y3 y4 y5
      unfold spec_LsHTML.l0
      repeat' first
      | (with_reducible exact ih0 _ _ _ _ _ _)
      | (with_reducible exact ih1 _ _ _ _ _ _ _ _)
      | (with_reducible exact ih2 _ _ _ _ _ _ _ _)
      | (with_reducible exact ih3 _ _)
      | (with_reducible exact spec_Decimal.mono _ _)
      | (with_reducible exact LeO.refl _)
      | (with_reducible exact LeO.none _)
      | (with_reducible refine LeO.ite ?_ ?_)
      | (with_reducible refine LeO.bind ?_ (fun _ => ?_))
      | exact ih0 _ _ _ _ _ _
      | exact ih1 _ _ _ _ _ _ _ _
      | exact ih2 _ _ _ _ _ _ _ _
      | exact ih3 _ _
      | exact spec_Decimal.mono _ _
      | exact LeO.none _
      | refine LeO.ite ?_ ?_
      | refine LeO.bind ?_ (fun _ => ?_)
    · intro y0 y1 y2 y3 y4 y5 y6 y7
      unfold spec_LsHTML.l1
      repeat' first
      | (with_reducible exact ih0 _ _ _ _ _ _)
      | (with_reducible exact ih1 _ _ _ _ _ _ _ _)
      | (with_reducible exact ih2 _ _ _ _ _ _ _ _)
      | (with_reducible exact ih3 _ _)
      | (with_reducible exact spec_Decimal.mono _ _)
      | (with_reducible exact LeO.refl _)
      | (with_reducible exact LeO.none _)
      | (with_reducible refine LeO.ite ?_ ?_)
      | (with_reducible refine LeO.bind ?_ (fun _ => ?_))
      | exact ih0 _ _ _ _ _ _
      | exact ih1 _ _ _ _ _ _ _ _
      | exact ih2 _ _ _ _ _ _ _ _
      | exact ih3 _ _
      | exact spec_Decimal.mono _ _
      | exact LeO.none _
      | refine LeO.ite ?_ ?_
      | refine LeO.bind ?_ (fun _ => ?_)
    · intro y0 y1 y2 y3 y4 y5 y6 y7
      unfold spec_LsHTML.l2
      repeat' first
      | (with_reducible exact ih0 _ _ _ _ _ _)
      | (with_reducible exact ih1 _ _ _ _ _ _ _ _)
      | (with_reducible exact ih2 _ _ _ _ _ _ _ _)
      | (with_reducible exact ih3 _ _)
      | (with_reducible exact spec_Decimal.mono _ _)
      | (with_reducible exact LeO.refl _)
      | (with_reducible exact LeO.none _)
      | (with_reducible refine LeO.ite ?_ ?_)
      | (with_reducible refine LeO.bind ?_ (fun _ => ?_))
      | exact ih0 _ _ _ _ _ _
      | exact ih1 _ _ _ _ _ _ _ _
      | exact ih2 _ _ _ _ _ _ _ _
      | exact ih3 _ _
      | exact spec_Decimal.mono _ _
      | exact LeO.none _
      | refine LeO.ite ?_ ?_
      | refine LeO.bind ?_ (fun _ => ?_)
    · intro y0 y1
      unfold spec_LsHTML.l3
      repeat' first
      | (with_reducible exact ih0 _ _ _ _ _ _)
      | (with_reducible exact ih1 _ _ _ _ _ _ _ _)
      | (with_reducible exact ih2 _ _ _ _ _ _ _ _)
      | (with_reducible exact ih3 _ _)
      | (with_reducible exact spec_Decimal.mono _ _)
      | (with_reducible exact LeO.refl _)
      | (with_reducible exact LeO.none _)
      | (with_reducible refine LeO.ite ?_ ?_)
      | (with_reducible refine LeO.bind ?_ (fun _ => ?_))
      | exact ih0 _ _ _ _ _ _
      | exact ih1 _ _ _ _ _ _ _ _
      | exact ih2 _ _ _ _ _ _ _ _
      | exact ih3 _ _
      | exact spec_Decimal.mono _ _
      | exact LeO.none _
      | refine LeO.ite ?_ ?_
      | refine LeO.bind ?_ (fun _ => ?_)
theorem spec_LsHTML.mono : ∀ a0 a1 k, LeO (spec_LsHTML.f k a0 a1) (spec_LsHTML.f (k + 1) a0 a1) := by
  intro a0 a1 k
  obtain ⟨ih0, ih1, ih2, ih3⟩ := spec_LsHTML.mono_l k
  unfold spec_LsHTML.f
  repeat' first
      | (with_reducible exact ih0 _ _ _ _ _ _)
      | (with_reducible exact ih1 _ _ _ _ _ _ _ _)
      | (with_reducible exact ih2 _ _ _ _ _ _ _ _)
      | (with_reducible exact ih3 _ _)
      | (with_reducible exact spec_Decimal.mono _ _)
      | (with_reducible exact LeO.refl _)
      | (with_reducible exact LeO.none _)
      | (with_reducible refine LeO.ite ?_ ?_)
      | (with_reducible refine LeO.bind ?_ (fun _ => ?_))
      | exact ih0 _ _ _ _ _ _
      | exact ih1 _ _ _ _ _ _ _ _
      | exact ih2 _ _ _ _ _ _ _ _
      | exact ih3 _ _
      | exact spec_Decimal.mono _ _
      | exact LeO.none _
      | refine LeO.ite ?_ ?_
      | refine LeO.bind ?_ (fun _ => ?_)
def spec_LsHTML.T12 : Bool × List (List Nat × List Nat) := (true, [([], []), ([], []), ([1], [1]), ([2], [2]), ([3], [3]), ([4], [4]), ([], []), ([6], [6]), ([5, 7], [5, 7]), ([8], [8]), ([0, 9], [0, 9]), ([10, 3, 0, 1, 2, 3, 4, 5, 6, 7, 8, 9, 10], [0, 10])])
def spec_LsHTML.B12 : List Nat := [0, 0, 2, 6, 14, 30, 0, 64, 254, 510, 1023, 2047]
theorem spec_LsHTML.tab12 : rtab .any (opsOf Try.f12 12) = spec_LsHTML.T12 := by kernel_rfl
theorem spec_LsHTML.bits12 : waitsOk spec_LsHTML.T12.2 spec_LsHTML.B12 = true := by kernel_rfl
set_option maxHeartbeats 8000000 in
set_option maxRecDepth 100000 in
theorem spec_LsHTML.calls (k : Nat) (A0 : Option Addr) (c0 : Nat) (l0 : List (S49)) (a1 : ByteArray) (r : ByteArray) (w : World) (hr0 : Kd.C k49 w A0 l0.length l0) (hc0 : l0.length ≤ c0) (h : spec_LsHTML.f k l0 a1 = some r) :
    Calls Try.prog 12 #[.slice A0 l0.length c0, .string a1] w fun e w' => e = .returned (.string r) ∧ Below w.heap.size w w' := by
  have hu49 := Try.underlying49
  have HR0 := Aside0.mk hr0
  have HC0 := Aside0.mk hc0
  clear hr0 hc0
  have HB := Aside0.mk (Below.refl w.heap.size w)
  have H : (if 11 + a1.size ≤ 9223372036854775807 then (if ((⟨#[60, 117, 108, 32, 99, 108, 97, 115, 115, 61, 34]⟩ : ByteArray) ++ a1).size + 2 ≤ 9223372036854775807 then (spec_LsHTML.l0 k a1 (((⟨#[60, 117, 108, 32, 99, 108, 97, 115, 115, 61, 34]⟩ : ByteArray) ++ a1) ++ (⟨#[34, 62]⟩ : ByteArray)) 0 l0 (l0.length : Int) 0) else (none)) else (none)) = some r := h
  clear h
  by_cases c3 : 11 + a1.size ≤ 9223372036854775807
  · rw [if_pos c3] at H
    have c3b0 := eq_true c3
    have c3b1 : decide (11 + a1.size ≤ 9223372036854775807) = true := decide_eq_true c3
    try have c3b2 : (9223372036854775807 < 11 + a1.size) = False := eq_false (Nat.not_lt.2 c3)
    by_cases c4 : ((⟨#[60, 117, 108, 32, 99, 108, 97, 115, 115, 61, 34]⟩ : ByteArray) ++ a1).size + 2 ≤ 9223372036854775807
    · rw [if_pos c4] at H
      have c4b0 := eq_true c4
      have c4b1 : decide (((⟨#[60, 117, 108, 32, 99, 108, 97, 115, 115, 61, 34]⟩ : ByteArray) ++ a1).size + 2 ≤ 9223372036854775807) = true := decide_eq_true c4
      try have c4b2 : (9223372036854775807 < ((⟨#[60, 117, 108, 32, 99, 108, 97, 115, 115, 61, 34]⟩ : ByteArray) ++ a1).size + 2) = False := eq_false (Nat.not_lt.2 c4)
      try have c4b3 : (9223372036854775807 < 11 + a1.size + 2) = False := eq_false (by have e_ : (((⟨#[60, 117, 108, 32, 99, 108, 97, 115, 115, 61, 34]⟩ : ByteArray) ++ a1).size + 2) = (11 + a1.size + 2) := (by (simp only [ByteArray.size_append]; first | done | rfl)); have z_ := c4; rw [e_] at z_; omega)
      have H' := Aside0.mk H
      clear H
      go_enter Try.func12, Try.ntmps12
      go_wp2
      go_loopg [5, 6, 14] k (fun kq v5 v6 v14 w' => ∃ (x5_1 : ByteArray) (x6_1 : Int) (x14_1 : Int), v5 = .string x5_1 ∧ v6 = .int .i64 x6_1 ∧ v14 = .int .i64 x14_1 ∧ Aside0 (spec_LsHTML.l0 kq a1 x5_1 x6_1 l0 (l0.length : Int) x14_1 = some r) ∧ Aside0 (kq ≤ k) ∧ Aside0 (Below w.heap.size w w'))
      case atStart => exact ⟨(((⟨#[60, 117, 108, 32, 99, 108, 97, 115, 115, 61, 34]⟩ : ByteArray) ++ a1) ++ (⟨#[34, 62]⟩ : ByteArray)), (0), (0), (by first | rfl | (simp; done) | (simp [*]; done)), (by first | rfl | (simp; done) | (simp [*]; done)), (by first | rfl | (simp; done) | (simp [*]; done)), H', ⟨Nat.le_refl _⟩, ⟨by repeat (first | (with_reducible first | exact HB.out | apply below_alloc | apply pw_below_drewN | apply below_drew1) | exact HB.out)⟩⟩
      case round =>
        clear H'
        try clear c1
        try clear p2
        try clear c3
        try clear c3b0
        try clear c3b1
        try clear c3b2
        try clear c4
        try clear c4b0
        try clear c4b1
        try clear c4b2
        obtain ⟨x5_1, x6_1, x14_1, rfl, rfl, rfl, HA, HK1, HB⟩ := hrel
        cases gk with
        | zero => exact absurd HA.out (by simp [spec_LsHTML.l0])
        | succ k1 =>
          have H := HA.out
          clear HA
          simp only [spec_LsHTML.l0] at H
          by_cases c5 : x14_1 < (l0.length : Int)
          · rw [if_pos c5] at H
            have c5b0 : decide (x14_1 < (l0.length : Int)) = true := decide_eq_true c5
            clear c5
            by_cases c6 : 0 ≤ x14_1
            · rw [if_pos c6] at H
              have c6b0 : decide (0 ≤ x14_1) = true := decide_eq_true c6
              clear c6
              by_cases c7 : x14_1 < (l0.length : Int)
              · rw [if_pos c7] at H
                have c7b0 : decide (x14_1 < (l0.length : Int)) = true := decide_eq_true c7
                clear c7
                have H' := Aside0.mk H
                clear H
                have p139 : 0 ≤ (x14_1 : Int) := of_decide_eq_true (by first | (with_reducible assumption) | assumption)
                have q139 : x14_1 < (l0.length : Int) := of_decide_eq_true (by first | (with_reducible assumption) | assumption)
                obtain ⟨ad139, e139, hx139_0, hx139_1⟩ := at_T49 HR0.out x14_1 p139 q139
                cases e139
                replace hx139_0 := (HB.out.cell (World.block_lt_of_cell? w _ hx139_0)).trans hx139_0
                replace hx139_1 := (HB.out.cell (World.block_lt_of_cell? w _ hx139_1)).trans hx139_1
                replace p139 := eq_true p139
                replace q139 := eq_true q139
                go_wp2_with (first | ((with_reducible refine gate_dst (N := 8) rfl ?_); refine box_event ?hg (N := 8) ?hd (cs := #[.string (⟨#[]⟩ : ByteArray), .int .i64 0]) (t := 49) ?hr ?_; (case hd => rfl); (case hg => rfl); (case hr => first | (go_simp; done) | (go_simp; rfl)); intro gb140 hg w8 hbox hb; have n0_ := Aside0.mk (below_step (by repeat (first | (with_reducible first | exact HB.out | apply below_alloc | apply pw_below_drewN | apply below_drew1) | exact HB.out)) hb); have n1_ := Aside0.mk (hbox); have n2_ := Aside0.mk ((by rw [hg]; exact (below_size (by repeat (first | (with_reducible first | exact HB.out | apply below_alloc | apply pw_below_drewN | apply below_drew1) | exact HB.out))) : w.heap.size ≤ gb140)); have n3_ := Aside0.mk ((by rw [hg]; exact (below_size (by repeat (first | (with_reducible first | exact HB.out | apply below_alloc | apply pw_below_drewN | apply below_drew1) | exact HB.out))) : w.heap.size ≤ gb140)); clear HB; have HB := n0_; have BK140 := n1_; have GW140 := n2_; have GE140 := n3_; clear n0_ n1_ n2_ n3_; clear hb hbox hg; have hcz9_0 : w8.cell? ⟨gb140, 0, none⟩ = some (.string (⟨#[]⟩ : ByteArray)) := (blk_cell BK140.out 0).trans rfl; have hcz9_1 : w8.cell? ⟨gb140, 1, none⟩ = some (.int .i64 0) := (blk_cell BK140.out 1).trans rfl; have hfz9_0 := blk_frozen BK140.out 0; have hfz9_1 := blk_frozen BK140.out 1))
                go_loopg [5, 6] k1 (fun kq v5 v6 w' => ∃ (x5_2 : ByteArray) (x6_2 : Int), v5 = .string x5_2 ∧ v6 = .int .i64 x6_2 ∧ Aside0 (spec_LsHTML.l1 kq a1 x5_2 x6_2 l0 (l0.length : Int) x14_1 ((rd_T49 l0 x14_1).f0) ((rd_T49 l0 x14_1).f1) = some r) ∧ Aside0 (kq ≤ k1) ∧ Aside0 (w'.heap[gb140]? = some (.cells #[.string ((rd_T49 l0 x14_1).f0), .int .i64 ((rd_T49 l0 x14_1).f1)] 49 (0, 0))) ∧ Aside0 (Below w.heap.size w w'))
                case atStart => exact ⟨(x5_1), (x6_1), (by first | rfl | (simp; done) | (simp [*]; done)), (by first | rfl | (simp; done) | (simp [*]; done)), H', ⟨Nat.le_refl _⟩, ⟨by (with_reducible repeat (first | refine blk_drewN ?_ _ | refine blk_drew ?_ | refine blk_alloc ?_ _)); refine blk_put (cs := #[.string ((rd_T49 l0 x14_1).f0), .int .i64 0]) ?_ 1 _ rfl; (with_reducible repeat (first | refine blk_drewN ?_ _ | refine blk_drew ?_ | refine blk_alloc ?_ _)); refine blk_put (cs := #[.string (⟨#[]⟩ : ByteArray), .int .i64 0]) ?_ 0 _ rfl; (with_reducible repeat (first | refine blk_drewN ?_ _ | refine blk_drew ?_ | refine blk_alloc ?_ _)); exact BK140.out⟩, ⟨by repeat (first | (with_reducible first | exact HB.out | apply below_alloc | apply pw_below_drewN | apply below_drew1 | refine below_set ?_ GE140.out) | exact HB.out)⟩⟩
                case round =>
                  clear H'
                  try clear c1
                  try clear p1
                  try clear q1
                  try clear hx1
                  try clear p2
                  try clear c3
                  try clear c3b0
                  try clear c3b1
                  try clear c3b2
                  try clear c4
                  try clear c4b0
                  try clear c4b1
                  try clear c4b2
                  try clear c5
                  try clear c5b0
                  try clear c6
                  try clear c6b0
                  try clear c7
                  try clear c7b0
                  try clear hcz9_0
                  try clear hcz9_1
                  try clear hfz9_0
                  try clear hfz9_1
                  try clear hx139_0
                  try clear hx139_1
                  try clear p139
                  try clear p2
                  try clear q139
                  obtain ⟨x5_2, x6_2, rfl, rfl, HA, HK2, BK140, HB⟩ := hrel
                  cases gk with
                  | zero => exact absurd HA.out (by simp [spec_LsHTML.l1])
                  | succ k2 =>
                    have H := HA.out
                    clear HA
                    simp only [spec_LsHTML.l1] at H
                    by_cases c10 : x6_2 < ((rd_T49 l0 x14_1).f1)
                    · rw [if_pos c10] at H
                      have c10b0 : decide (x6_2 < ((rd_T49 l0 x14_1).f1)) = true := decide_eq_true c10
                      clear c10
                      replace H := Option.bind_eq_some_iff.mp H
                      obtain ⟨t141, A110, H⟩ := H
                      replace H : (if 1 + t141.size ≤ 9223372036854775807 then (if ((⟨#[10]⟩ : ByteArray) ++ t141).size + 11 ≤ 9223372036854775807 then (if (((⟨#[10]⟩ : ByteArray) ++ t141) ++ (⟨#[60, 117, 108, 32, 99, 108, 97, 115, 115, 61, 34]⟩ : ByteArray)).size + a1.size ≤ 9223372036854775807 then (if ((((⟨#[10]⟩ : ByteArray) ++ t141) ++ (⟨#[60, 117, 108, 32, 99, 108, 97, 115, 115, 61, 34]⟩ : ByteArray)) ++ a1).size + 1 ≤ 9223372036854775807 then ((spec_Decimal.f k2 (wrap64 (x6_2 + 1))).bind fun t142 => (if (((((⟨#[10]⟩ : ByteArray) ++ t141) ++ (⟨#[60, 117, 108, 32, 99, 108, 97, 115, 115, 61, 34]⟩ : ByteArray)) ++ a1) ++ (⟨#[45]⟩ : ByteArray)).size + t142.size ≤ 9223372036854775807 then (if ((((((⟨#[10]⟩ : ByteArray) ++ t141) ++ (⟨#[60, 117, 108, 32, 99, 108, 97, 115, 115, 61, 34]⟩ : ByteArray)) ++ a1) ++ (⟨#[45]⟩ : ByteArray)) ++ t142).size + 2 ≤ 9223372036854775807 then (if x5_2.size + (((((((⟨#[10]⟩ : ByteArray) ++ t141) ++ (⟨#[60, 117, 108, 32, 99, 108, 97, 115, 115, 61, 34]⟩ : ByteArray)) ++ a1) ++ (⟨#[45]⟩ : ByteArray)) ++ t142) ++ (⟨#[34, 62]⟩ : ByteArray)).size ≤ 9223372036854775807 then (spec_LsHTML.l1 k2 a1 (x5_2 ++ (((((((⟨#[10]⟩ : ByteArray) ++ t141) ++ (⟨#[60, 117, 108, 32, 99, 108, 97, 115, 115, 61, 34]⟩ : ByteArray)) ++ a1) ++ (⟨#[45]⟩ : ByteArray)) ++ t142) ++ (⟨#[34, 62]⟩ : ByteArray))) (wrap64 (x6_2 + 1)) l0 (l0.length : Int) x14_1 ((rd_T49 l0 x14_1).f0) ((rd_T49 l0 x14_1).f1)) else (none)) else (none)) else (none))) else (none)) else (none)) else (none)) else (none)) = some r := H
                      have A11 := Aside0.mk A110
                      clear A110
                      by_cases c12 : 1 + t141.size ≤ 9223372036854775807
                      · rw [if_pos c12] at H
                        have c12b0 := eq_true c12
                        have c12b1 : decide (1 + t141.size ≤ 9223372036854775807) = true := decide_eq_true c12
                        try have c12b2 : (9223372036854775807 < 1 + t141.size) = False := eq_false (Nat.not_lt.2 c12)
                        by_cases c13 : ((⟨#[10]⟩ : ByteArray) ++ t141).size + 11 ≤ 9223372036854775807
                        · rw [if_pos c13] at H
                          have c13b0 := eq_true c13
                          have c13b1 : decide (((⟨#[10]⟩ : ByteArray) ++ t141).size + 11 ≤ 9223372036854775807) = true := decide_eq_true c13
                          try have c13b2 : (9223372036854775807 < ((⟨#[10]⟩ : ByteArray) ++ t141).size + 11) = False := eq_false (Nat.not_lt.2 c13)
                          try have c13b3 : (9223372036854775807 < 1 + t141.size + 11) = False := eq_false (by have e_ : (((⟨#[10]⟩ : ByteArray) ++ t141).size + 11) = (1 + t141.size + 11) := (by (simp only [ByteArray.size_append]; first | done | rfl)); have z_ := c13; rw [e_] at z_; omega)
                          by_cases c14 : (((⟨#[10]⟩ : ByteArray) ++ t141) ++ (⟨#[60, 117, 108, 32, 99, 108, 97, 115, 115, 61, 34]⟩ : ByteArray)).size + a1.size ≤ 9223372036854775807
                          · rw [if_pos c14] at H
                            have c14b0 := eq_true c14
                            have c14b1 : decide ((((⟨#[10]⟩ : ByteArray) ++ t141) ++ (⟨#[60, 117, 108, 32, 99, 108, 97, 115, 115, 61, 34]⟩ : ByteArray)).size + a1.size ≤ 9223372036854775807) = true := decide_eq_true c14
                            try have c14b2 : (9223372036854775807 < (((⟨#[10]⟩ : ByteArray) ++ t141) ++ (⟨#[60, 117, 108, 32, 99, 108, 97, 115, 115, 61, 34]⟩ : ByteArray)).size + a1.size) = False := eq_false (Nat.not_lt.2 c14)
                            try have c14b3 : (9223372036854775807 < 1 + t141.size + 11 + a1.size) = False := eq_false (by have e_ : ((((⟨#[10]⟩ : ByteArray) ++ t141) ++ (⟨#[60, 117, 108, 32, 99, 108, 97, 115, 115, 61, 34]⟩ : ByteArray)).size + a1.size) = (1 + t141.size + 11 + a1.size) := (by (simp only [ByteArray.size_append]; first | done | rfl)); have z_ := c14; rw [e_] at z_; omega)
                            by_cases c15 : ((((⟨#[10]⟩ : ByteArray) ++ t141) ++ (⟨#[60, 117, 108, 32, 99, 108, 97, 115, 115, 61, 34]⟩ : ByteArray)) ++ a1).size + 1 ≤ 9223372036854775807
                            · rw [if_pos c15] at H
                              have c15b0 := eq_true c15
                              have c15b1 : decide (((((⟨#[10]⟩ : ByteArray) ++ t141) ++ (⟨#[60, 117, 108, 32, 99, 108, 97, 115, 115, 61, 34]⟩ : ByteArray)) ++ a1).size + 1 ≤ 9223372036854775807) = true := decide_eq_true c15
                              try have c15b2 : (9223372036854775807 < ((((⟨#[10]⟩ : ByteArray) ++ t141) ++ (⟨#[60, 117, 108, 32, 99, 108, 97, 115, 115, 61, 34]⟩ : ByteArray)) ++ a1).size + 1) = False := eq_false (Nat.not_lt.2 c15)
                              try have c15b3 : (9223372036854775807 < 1 + t141.size + 11 + a1.size + 1) = False := eq_false (by have e_ : (((((⟨#[10]⟩ : ByteArray) ++ t141) ++ (⟨#[60, 117, 108, 32, 99, 108, 97, 115, 115, 61, 34]⟩ : ByteArray)) ++ a1).size + 1) = (1 + t141.size + 11 + a1.size + 1) := (by (simp only [ByteArray.size_append]; first | done | rfl)); have z_ := c15; rw [e_] at z_; omega)
                              replace H := Option.bind_eq_some_iff.mp H
                              obtain ⟨t142, A160, H⟩ := H
                              replace H : (if (((((⟨#[10]⟩ : ByteArray) ++ t141) ++ (⟨#[60, 117, 108, 32, 99, 108, 97, 115, 115, 61, 34]⟩ : ByteArray)) ++ a1) ++ (⟨#[45]⟩ : ByteArray)).size + t142.size ≤ 9223372036854775807 then (if ((((((⟨#[10]⟩ : ByteArray) ++ t141) ++ (⟨#[60, 117, 108, 32, 99, 108, 97, 115, 115, 61, 34]⟩ : ByteArray)) ++ a1) ++ (⟨#[45]⟩ : ByteArray)) ++ t142).size + 2 ≤ 9223372036854775807 then (if x5_2.size + (((((((⟨#[10]⟩ : ByteArray) ++ t141) ++ (⟨#[60, 117, 108, 32, 99, 108, 97, 115, 115, 61, 34]⟩ : ByteArray)) ++ a1) ++ (⟨#[45]⟩ : ByteArray)) ++ t142) ++ (⟨#[34, 62]⟩ : ByteArray)).size ≤ 9223372036854775807 then (spec_LsHTML.l1 k2 a1 (x5_2 ++ (((((((⟨#[10]⟩ : ByteArray) ++ t141) ++ (⟨#[60, 117, 108, 32, 99, 108, 97, 115, 115, 61, 34]⟩ : ByteArray)) ++ a1) ++ (⟨#[45]⟩ : ByteArray)) ++ t142) ++ (⟨#[34, 62]⟩ : ByteArray))) (wrap64 (x6_2 + 1)) l0 (l0.length : Int) x14_1 ((rd_T49 l0 x14_1).f0) ((rd_T49 l0 x14_1).f1)) else (none)) else (none)) else (none)) = some r := H
                              have A16 := Aside0.mk A160
                              clear A160
                              by_cases c17 : (((((⟨#[10]⟩ : ByteArray) ++ t141) ++ (⟨#[60, 117, 108, 32, 99, 108, 97, 115, 115, 61, 34]⟩ : ByteArray)) ++ a1) ++ (⟨#[45]⟩ : ByteArray)).size + t142.size ≤ 9223372036854775807
                              · rw [if_pos c17] at H
                                have c17b0 := eq_true c17
                                have c17b1 : decide ((((((⟨#[10]⟩ : ByteArray) ++ t141) ++ (⟨#[60, 117, 108, 32, 99, 108, 97, 115, 115, 61, 34]⟩ : ByteArray)) ++ a1) ++ (⟨#[45]⟩ : ByteArray)).size + t142.size ≤ 9223372036854775807) = true := decide_eq_true c17
                                try have c17b2 : (9223372036854775807 < (((((⟨#[10]⟩ : ByteArray) ++ t141) ++ (⟨#[60, 117, 108, 32, 99, 108, 97, 115, 115, 61, 34]⟩ : ByteArray)) ++ a1) ++ (⟨#[45]⟩ : ByteArray)).size + t142.size) = False := eq_false (Nat.not_lt.2 c17)
                                try have c17b3 : (9223372036854775807 < 1 + t141.size + 11 + a1.size + 1 + t142.size) = False := eq_false (by have e_ : ((((((⟨#[10]⟩ : ByteArray) ++ t141) ++ (⟨#[60, 117, 108, 32, 99, 108, 97, 115, 115, 61, 34]⟩ : ByteArray)) ++ a1) ++ (⟨#[45]⟩ : ByteArray)).size + t142.size) = (1 + t141.size + 11 + a1.size + 1 + t142.size) := (by (simp only [ByteArray.size_append]; first | done | rfl)); have z_ := c17; rw [e_] at z_; omega)
                                by_cases c18 : ((((((⟨#[10]⟩ : ByteArray) ++ t141) ++ (⟨#[60, 117, 108, 32, 99, 108, 97, 115, 115, 61, 34]⟩ : ByteArray)) ++ a1) ++ (⟨#[45]⟩ : ByteArray)) ++ t142).size + 2 ≤ 9223372036854775807
                                · rw [if_pos c18] at H
                                  have c18b0 := eq_true c18
                                  have c18b1 : decide (((((((⟨#[10]⟩ : ByteArray) ++ t141) ++ (⟨#[60, 117, 108, 32, 99, 108, 97, 115, 115, 61, 34]⟩ : ByteArray)) ++ a1) ++ (⟨#[45]⟩ : ByteArray)) ++ t142).size + 2 ≤ 9223372036854775807) = true := decide_eq_true c18
                                  try have c18b2 : (9223372036854775807 < ((((((⟨#[10]⟩ : ByteArray) ++ t141) ++ (⟨#[60, 117, 108, 32, 99, 108, 97, 115, 115, 61, 34]⟩ : ByteArray)) ++ a1) ++ (⟨#[45]⟩ : ByteArray)) ++ t142).size + 2) = False := eq_false (Nat.not_lt.2 c18)
                                  try have c18b3 : (9223372036854775807 < 1 + t141.size + 11 + a1.size + 1 + t142.size + 2) = False := eq_false (by have e_ : (((((((⟨#[10]⟩ : ByteArray) ++ t141) ++ (⟨#[60, 117, 108, 32, 99, 108, 97, 115, 115, 61, 34]⟩ : ByteArray)) ++ a1) ++ (⟨#[45]⟩ : ByteArray)) ++ t142).size + 2) = (1 + t141.size + 11 + a1.size + 1 + t142.size + 2) := (by (simp only [ByteArray.size_append]; first | done | rfl)); have z_ := c18; rw [e_] at z_; omega)
                                  by_cases c19 : x5_2.size + (((((((⟨#[10]⟩ : ByteArray) ++ t141) ++ (⟨#[60, 117, 108, 32, 99, 108, 97, 115, 115, 61, 34]⟩ : ByteArray)) ++ a1) ++ (⟨#[45]⟩ : ByteArray)) ++ t142) ++ (⟨#[34, 62]⟩ : ByteArray)).size ≤ 9223372036854775807
                                  · rw [if_pos c19] at H
                                    have c19b0 := eq_true c19
                                    have c19b1 : decide (x5_2.size + (((((((⟨#[10]⟩ : ByteArray) ++ t141) ++ (⟨#[60, 117, 108, 32, 99, 108, 97, 115, 115, 61, 34]⟩ : ByteArray)) ++ a1) ++ (⟨#[45]⟩ : ByteArray)) ++ t142) ++ (⟨#[34, 62]⟩ : ByteArray)).size ≤ 9223372036854775807) = true := decide_eq_true c19
                                    try have c19b2 : (9223372036854775807 < x5_2.size + (((((((⟨#[10]⟩ : ByteArray) ++ t141) ++ (⟨#[60, 117, 108, 32, 99, 108, 97, 115, 115, 61, 34]⟩ : ByteArray)) ++ a1) ++ (⟨#[45]⟩ : ByteArray)) ++ t142) ++ (⟨#[34, 62]⟩ : ByteArray)).size) = False := eq_false (Nat.not_lt.2 c19)
                                    try have c19b3 : (9223372036854775807 < x5_2.size + (1 + t141.size + 11 + a1.size + 1 + t142.size + 2)) = False := eq_false (by have e_ : (x5_2.size + (((((((⟨#[10]⟩ : ByteArray) ++ t141) ++ (⟨#[60, 117, 108, 32, 99, 108, 97, 115, 115, 61, 34]⟩ : ByteArray)) ++ a1) ++ (⟨#[45]⟩ : ByteArray)) ++ t142) ++ (⟨#[34, 62]⟩ : ByteArray)).size) = (x5_2.size + (1 + t141.size + 11 + a1.size + 1 + t142.size + 2)) := (by (simp only [ByteArray.size_append]; first | done | rfl)); have z_ := c19; rw [e_] at z_; omega)
                                    have H' := Aside0.mk H
                                    clear H
                                    have hcz20_0 : wr.cell? ⟨gb140, 0, none⟩ = some (.string ((rd_T49 l0 x14_1).f0)) := (blk_cell BK140.out 0).trans rfl
                                    have hcz20_1 : wr.cell? ⟨gb140, 1, none⟩ = some (.int .i64 ((rd_T49 l0 x14_1).f1)) := (blk_cell BK140.out 1).trans rfl
                                    have hfz20_0 := blk_frozen BK140.out 0
                                    have hfz20_1 := blk_frozen BK140.out 1
                                    go_wp2_with (first | ((with_reducible refine gate_callee (f := 24) rfl ?_); refine goesL_ (some 27) rfl rfl Try.func24 (by kernel_rfl) rfl #[.string (⟨#[32, 32]⟩ : ByteArray), .int .i64 (wrap64 (x6_2 + 1))] rfl (by (try simp only [List.map_toArray, List.map_cons, List.map_nil]); first | done | rfl | (simp only [List.length_drop, List.length_take]; rfl)) ?_; (with_reducible refine (spec_TxTimes.calls (⟨#[32, 32]⟩ : ByteArray) (wrap64 (x6_2 + 1)) t141 _ A11.out).mono ?_); rintro e w21 ⟨rfl, hb⟩; refine ⟨_, rfl, ?_⟩; have n0_ := Aside0.mk (blk_below (g := gb140) (o := .cells #[.string ((rd_T49 l0 x14_1).f0), .int .i64 ((rd_T49 l0 x14_1).f1)] 49 (0, 0)) (by (with_reducible repeat (first | refine blk_drewN ?_ _ | refine blk_drew ?_ | refine blk_alloc ?_ _)); exact BK140.out) hb); have n1_ := Aside0.mk (below_step (by repeat (first | (with_reducible first | exact HB.out | apply below_alloc | apply pw_below_drewN | apply below_drew1 | refine below_set ?_ GE140.out) | exact HB.out)) hb); clear BK140; clear HB; have BK140 := n0_; have HB := n1_; clear n0_ n1_; (try clear hb); (try clear hb2); (try clear hk); (try clear hi)) | ((with_reducible refine gate_callee (f := 25) rfl ?_); refine goesL_ (some 35) rfl rfl Try.func25 (by kernel_rfl) rfl #[.int .i64 (wrap64 (x6_2 + 1))] rfl (by (try simp only [List.map_toArray, List.map_cons, List.map_nil]); first | done | rfl | (simp only [List.length_drop, List.length_take]; rfl)) ?_; (with_reducible refine (spec_Decimal.calls k2 (wrap64 (x6_2 + 1)) t142 _ A16.out).mono ?_); rintro e w22 ⟨rfl, hb⟩; refine ⟨_, rfl, ?_⟩; have n0_ := Aside0.mk (blk_below (g := gb140) (o := .cells #[.string ((rd_T49 l0 x14_1).f0), .int .i64 ((rd_T49 l0 x14_1).f1)] 49 (0, 0)) (by (with_reducible repeat (first | refine blk_drewN ?_ _ | refine blk_drew ?_ | refine blk_alloc ?_ _)); exact BK140.out) hb); have n1_ := Aside0.mk (below_step (by repeat (first | (with_reducible first | exact HB.out | apply below_alloc | apply pw_below_drewN | apply below_drew1 | refine below_set ?_ GE140.out) | exact HB.out)) hb); clear BK140; clear HB; have BK140 := n0_; have HB := n1_; clear n0_ n1_; (try clear hb); (try clear hb2); (try clear hk); (try clear hi)))
                                    go_roundg k2
                                    case measure => have := HK1.out; have := HK2.out; omega
                                    case rel => exact ⟨(x5_2 ++ (((((((⟨#[10]⟩ : ByteArray) ++ t141) ++ (⟨#[60, 117, 108, 32, 99, 108, 97, 115, 115, 61, 34]⟩ : ByteArray)) ++ a1) ++ (⟨#[45]⟩ : ByteArray)) ++ t142) ++ (⟨#[34, 62]⟩ : ByteArray))), (wrap64 (x6_2 + 1)), (by first | rfl | (simp; done) | (simp [*]; done)), (by first | rfl | (simp; done) | (simp [*]; done)), H', ⟨by have := HK1.out; have := HK2.out; omega⟩, ⟨by (with_reducible repeat (first | refine blk_drewN ?_ _ | refine blk_drew ?_ | refine blk_alloc ?_ _)); exact BK140.out⟩, ⟨by repeat (first | (with_reducible first | exact HB.out | apply below_alloc | apply pw_below_drewN | apply below_drew1 | refine below_set ?_ GE140.out) | exact HB.out)⟩⟩
                                  · rw [if_neg c19] at H
                                    exact absurd H (by simp)
                                · rw [if_neg c18] at H
                                  exact absurd H (by simp)
                              · rw [if_neg c17] at H
                                exact absurd H (by simp)
                            · rw [if_neg c15] at H
                              exact absurd H (by simp)
                          · rw [if_neg c14] at H
                            exact absurd H (by simp)
                        · rw [if_neg c13] at H
                          exact absurd H (by simp)
                      · rw [if_neg c12] at H
                        exact absurd H (by simp)
                    · rw [if_neg c10] at H
                      have c10b0 : decide (x6_2 < ((rd_T49 l0 x14_1).f1)) = false := decide_eq_false c10
                      clear c10
                      have H' := Aside0.mk H
                      clear H
                      have hcz23_0 : wr.cell? ⟨gb140, 0, none⟩ = some (.string ((rd_T49 l0 x14_1).f0)) := (blk_cell BK140.out 0).trans rfl
                      have hcz23_1 : wr.cell? ⟨gb140, 1, none⟩ = some (.int .i64 ((rd_T49 l0 x14_1).f1)) := (blk_cell BK140.out 1).trans rfl
                      have hfz23_0 := blk_frozen BK140.out 0
                      have hfz23_1 := blk_frozen BK140.out 1
                      go_wp2
                      go_loopg [5, 6] k2 (fun kq v5 v6 w' => ∃ (x5_3 : ByteArray) (x6_3 : Int), v5 = .string x5_3 ∧ v6 = .int .i64 x6_3 ∧ Aside0 (spec_LsHTML.l2 kq a1 x5_3 x6_3 l0 (l0.length : Int) x14_1 ((rd_T49 l0 x14_1).f0) ((rd_T49 l0 x14_1).f1) = some r) ∧ Aside0 (kq ≤ k2) ∧ Aside0 (w'.heap[gb140]? = some (.cells #[.string ((rd_T49 l0 x14_1).f0), .int .i64 ((rd_T49 l0 x14_1).f1)] 49 (0, 0))) ∧ Aside0 (Below w.heap.size w w'))
                      case atStart => exact ⟨(x5_2), (x6_2), (by first | rfl | (simp; done) | (simp [*]; done)), (by first | rfl | (simp; done) | (simp [*]; done)), H', ⟨Nat.le_refl _⟩, ⟨by (with_reducible repeat (first | refine blk_drewN ?_ _ | refine blk_drew ?_ | refine blk_alloc ?_ _)); exact BK140.out⟩, ⟨by repeat (first | (with_reducible first | exact HB.out | apply below_alloc | apply pw_below_drewN | apply below_drew1 | refine below_set ?_ GE140.out) | exact HB.out)⟩⟩
                      case round =>
                        clear H'
                        try clear c1
                        try clear p1
                        try clear q1
                        try clear hx1
                        try clear c2
                        try clear p2
                        try clear c3
                        try clear c3b0
                        try clear c3b1
                        try clear c3b2
                        try clear c4
                        try clear c4b0
                        try clear c4b1
                        try clear c4b2
                        try clear c5
                        try clear c5b0
                        try clear c6
                        try clear c6b0
                        try clear p6
                        try clear c7
                        try clear c7b0
                        try clear c10
                        try clear c10b0
                        try clear c12
                        try clear c12b0
                        try clear c12b1
                        try clear c12b2
                        try clear c13
                        try clear c13b0
                        try clear c13b1
                        try clear c13b2
                        try clear p13
                        try clear q13
                        try clear hx13
                        try clear c14
                        try clear c14b0
                        try clear c14b1
                        try clear c14b2
                        try clear c15
                        try clear c15b0
                        try clear c15b1
                        try clear c15b2
                        try clear c17
                        try clear c17b0
                        try clear c17b1
                        try clear c17b2
                        try clear c18
                        try clear c18b0
                        try clear c18b1
                        try clear c18b2
                        try clear c19
                        try clear c19b0
                        try clear c19b1
                        try clear c19b2
                        try clear hcz20_0
                        try clear hcz20_1
                        try clear hcz23_0
                        try clear hcz23_1
                        try clear hcz9_0
                        try clear hcz9_1
                        try clear hfz20_0
                        try clear hfz20_1
                        try clear hfz23_0
                        try clear hfz23_1
                        try clear hfz9_0
                        try clear hfz9_1
                        try clear hx139_0
                        try clear hx139_1
                        try clear p1
                        try clear p139
                        try clear p2
                        try clear q1
                        try clear q139
                        obtain ⟨x5_3, x6_3, rfl, rfl, HA, HK3, BK140, HB⟩ := hrel
                        cases gk with
                        | zero => exact absurd HA.out (by simp [spec_LsHTML.l2])
                        | succ k3 =>
                          have H := HA.out
                          clear HA
                          simp only [spec_LsHTML.l2] at H
                          by_cases c24 : x6_3 > ((rd_T49 l0 x14_1).f1)
                          · rw [if_pos c24] at H
                            have c24b0 : decide (((rd_T49 l0 x14_1).f1) < x6_3) = true := decide_eq_true c24
                            clear c24
                            replace H := Option.bind_eq_some_iff.mp H
                            obtain ⟨t143, A250, H⟩ := H
                            replace H : (if 1 + t143.size ≤ 9223372036854775807 then (if ((⟨#[10]⟩ : ByteArray) ++ t143).size + 5 ≤ 9223372036854775807 then (if x5_3.size + (((⟨#[10]⟩ : ByteArray) ++ t143) ++ (⟨#[60, 47, 117, 108, 62]⟩ : ByteArray)).size ≤ 9223372036854775807 then (spec_LsHTML.l2 k3 a1 (x5_3 ++ (((⟨#[10]⟩ : ByteArray) ++ t143) ++ (⟨#[60, 47, 117, 108, 62]⟩ : ByteArray))) (wrap64 (x6_3 - 1)) l0 (l0.length : Int) x14_1 ((rd_T49 l0 x14_1).f0) ((rd_T49 l0 x14_1).f1)) else (none)) else (none)) else (none)) = some r := H
                            have A25 := Aside0.mk A250
                            clear A250
                            by_cases c26 : 1 + t143.size ≤ 9223372036854775807
                            · rw [if_pos c26] at H
                              have c26b0 := eq_true c26
                              have c26b1 : decide (1 + t143.size ≤ 9223372036854775807) = true := decide_eq_true c26
                              try have c26b2 : (9223372036854775807 < 1 + t143.size) = False := eq_false (Nat.not_lt.2 c26)
                              by_cases c27 : ((⟨#[10]⟩ : ByteArray) ++ t143).size + 5 ≤ 9223372036854775807
                              · rw [if_pos c27] at H
                                have c27b0 := eq_true c27
                                have c27b1 : decide (((⟨#[10]⟩ : ByteArray) ++ t143).size + 5 ≤ 9223372036854775807) = true := decide_eq_true c27
                                try have c27b2 : (9223372036854775807 < ((⟨#[10]⟩ : ByteArray) ++ t143).size + 5) = False := eq_false (Nat.not_lt.2 c27)
                                try have c27b3 : (9223372036854775807 < 1 + t143.size + 5) = False := eq_false (by have e_ : (((⟨#[10]⟩ : ByteArray) ++ t143).size + 5) = (1 + t143.size + 5) := (by (simp only [ByteArray.size_append]; first | done | rfl)); have z_ := c27; rw [e_] at z_; omega)
                                by_cases c28 : x5_3.size + (((⟨#[10]⟩ : ByteArray) ++ t143) ++ (⟨#[60, 47, 117, 108, 62]⟩ : ByteArray)).size ≤ 9223372036854775807
                                · rw [if_pos c28] at H
                                  have c28b0 := eq_true c28
                                  have c28b1 : decide (x5_3.size + (((⟨#[10]⟩ : ByteArray) ++ t143) ++ (⟨#[60, 47, 117, 108, 62]⟩ : ByteArray)).size ≤ 9223372036854775807) = true := decide_eq_true c28
                                  try have c28b2 : (9223372036854775807 < x5_3.size + (((⟨#[10]⟩ : ByteArray) ++ t143) ++ (⟨#[60, 47, 117, 108, 62]⟩ : ByteArray)).size) = False := eq_false (Nat.not_lt.2 c28)
                                  try have c28b3 : (9223372036854775807 < x5_3.size + (1 + t143.size + 5)) = False := eq_false (by have e_ : (x5_3.size + (((⟨#[10]⟩ : ByteArray) ++ t143) ++ (⟨#[60, 47, 117, 108, 62]⟩ : ByteArray)).size) = (x5_3.size + (1 + t143.size + 5)) := (by (simp only [ByteArray.size_append]; first | done | rfl)); have z_ := c28; rw [e_] at z_; omega)
                                  have H' := Aside0.mk H
                                  clear H
                                  have hcz29_0 : wr.cell? ⟨gb140, 0, none⟩ = some (.string ((rd_T49 l0 x14_1).f0)) := (blk_cell BK140.out 0).trans rfl
                                  have hcz29_1 : wr.cell? ⟨gb140, 1, none⟩ = some (.int .i64 ((rd_T49 l0 x14_1).f1)) := (blk_cell BK140.out 1).trans rfl
                                  have hfz29_0 := blk_frozen BK140.out 0
                                  have hfz29_1 := blk_frozen BK140.out 1
                                  go_wp2_with (first | ((with_reducible refine gate_callee (f := 24) rfl ?_); refine goesL_ (some 47) rfl rfl Try.func24 (by kernel_rfl) rfl #[.string (⟨#[32, 32]⟩ : ByteArray), .int .i64 x6_3] rfl (by (try simp only [List.map_toArray, List.map_cons, List.map_nil]); first | done | rfl | (simp only [List.length_drop, List.length_take]; rfl)) ?_; (with_reducible refine (spec_TxTimes.calls (⟨#[32, 32]⟩ : ByteArray) x6_3 t143 _ A25.out).mono ?_); rintro e w30 ⟨rfl, hb⟩; refine ⟨_, rfl, ?_⟩; have n0_ := Aside0.mk (blk_below (g := gb140) (o := .cells #[.string ((rd_T49 l0 x14_1).f0), .int .i64 ((rd_T49 l0 x14_1).f1)] 49 (0, 0)) (by (with_reducible repeat (first | refine blk_drewN ?_ _ | refine blk_drew ?_ | refine blk_alloc ?_ _)); exact BK140.out) hb); have n1_ := Aside0.mk (below_step (by repeat (first | (with_reducible first | exact HB.out | apply below_alloc | apply pw_below_drewN | apply below_drew1 | refine below_set ?_ GE140.out) | exact HB.out)) hb); clear BK140; clear HB; have BK140 := n0_; have HB := n1_; clear n0_ n1_; (try clear hb); (try clear hb2); (try clear hk); (try clear hi)))
                                  go_roundg k3
                                  case measure => have := HK1.out; have := HK2.out; have := HK3.out; omega
                                  case rel => exact ⟨(x5_3 ++ (((⟨#[10]⟩ : ByteArray) ++ t143) ++ (⟨#[60, 47, 117, 108, 62]⟩ : ByteArray))), (wrap64 (x6_3 - 1)), (by first | rfl | (simp; done) | (simp [*]; done)), (by first | rfl | (simp; done) | (simp [*]; done)), H', ⟨by have := HK1.out; have := HK2.out; have := HK3.out; omega⟩, ⟨by (with_reducible repeat (first | refine blk_drewN ?_ _ | refine blk_drew ?_ | refine blk_alloc ?_ _)); exact BK140.out⟩, ⟨by repeat (first | (with_reducible first | exact HB.out | apply below_alloc | apply pw_below_drewN | apply below_drew1 | refine below_set ?_ GE140.out) | exact HB.out)⟩⟩
                                · rw [if_neg c28] at H
                                  exact absurd H (by simp)
                              · rw [if_neg c27] at H
                                exact absurd H (by simp)
                            · rw [if_neg c26] at H
                              exact absurd H (by simp)
                          · rw [if_neg c24] at H
                            have c24b0 : decide (((rd_T49 l0 x14_1).f1) < x6_3) = false := decide_eq_false c24
                            clear c24
                            replace H := Option.bind_eq_some_iff.mp H
                            obtain ⟨t144, A310, H⟩ := H
                            replace H : (if 1 + t144.size ≤ 9223372036854775807 then (if ((⟨#[10]⟩ : ByteArray) ++ t144).size + 4 ≤ 9223372036854775807 then (if (((⟨#[10]⟩ : ByteArray) ++ t144) ++ (⟨#[60, 108, 105, 62]⟩ : ByteArray)).size + ((rd_T49 l0 x14_1).f0).size ≤ 9223372036854775807 then (if ((((⟨#[10]⟩ : ByteArray) ++ t144) ++ (⟨#[60, 108, 105, 62]⟩ : ByteArray)) ++ ((rd_T49 l0 x14_1).f0)).size + 5 ≤ 9223372036854775807 then (if x5_3.size + (((((⟨#[10]⟩ : ByteArray) ++ t144) ++ (⟨#[60, 108, 105, 62]⟩ : ByteArray)) ++ ((rd_T49 l0 x14_1).f0)) ++ (⟨#[60, 47, 108, 105, 62]⟩ : ByteArray)).size ≤ 9223372036854775807 then (spec_LsHTML.l0 k3 a1 (x5_3 ++ (((((⟨#[10]⟩ : ByteArray) ++ t144) ++ (⟨#[60, 108, 105, 62]⟩ : ByteArray)) ++ ((rd_T49 l0 x14_1).f0)) ++ (⟨#[60, 47, 108, 105, 62]⟩ : ByteArray))) x6_3 l0 (l0.length : Int) (wrap64 (x14_1 + 1))) else (none)) else (none)) else (none)) else (none)) else (none)) = some r := H
                            have A31 := Aside0.mk A310
                            clear A310
                            by_cases c32 : 1 + t144.size ≤ 9223372036854775807
                            · rw [if_pos c32] at H
                              have c32b0 := eq_true c32
                              have c32b1 : decide (1 + t144.size ≤ 9223372036854775807) = true := decide_eq_true c32
                              try have c32b2 : (9223372036854775807 < 1 + t144.size) = False := eq_false (Nat.not_lt.2 c32)
                              by_cases c33 : ((⟨#[10]⟩ : ByteArray) ++ t144).size + 4 ≤ 9223372036854775807
                              · rw [if_pos c33] at H
                                have c33b0 := eq_true c33
                                have c33b1 : decide (((⟨#[10]⟩ : ByteArray) ++ t144).size + 4 ≤ 9223372036854775807) = true := decide_eq_true c33
                                try have c33b2 : (9223372036854775807 < ((⟨#[10]⟩ : ByteArray) ++ t144).size + 4) = False := eq_false (Nat.not_lt.2 c33)
                                try have c33b3 : (9223372036854775807 < 1 + t144.size + 4) = False := eq_false (by have e_ : (((⟨#[10]⟩ : ByteArray) ++ t144).size + 4) = (1 + t144.size + 4) := (by (simp only [ByteArray.size_append]; first | done | rfl)); have z_ := c33; rw [e_] at z_; omega)
                                by_cases c34 : (((⟨#[10]⟩ : ByteArray) ++ t144) ++ (⟨#[60, 108, 105, 62]⟩ : ByteArray)).size + ((rd_T49 l0 x14_1).f0).size ≤ 9223372036854775807
                                · rw [if_pos c34] at H
                                  have c34b0 := eq_true c34
                                  have c34b1 : decide ((((⟨#[10]⟩ : ByteArray) ++ t144) ++ (⟨#[60, 108, 105, 62]⟩ : ByteArray)).size + ((rd_T49 l0 x14_1).f0).size ≤ 9223372036854775807) = true := decide_eq_true c34
                                  try have c34b2 : (9223372036854775807 < (((⟨#[10]⟩ : ByteArray) ++ t144) ++ (⟨#[60, 108, 105, 62]⟩ : ByteArray)).size + ((rd_T49 l0 x14_1).f0).size) = False := eq_false (Nat.not_lt.2 c34)
                                  try have c34b3 : (9223372036854775807 < 1 + t144.size + 4 + ((rd_T49 l0 x14_1).f0).size) = False := eq_false (by have e_ : ((((⟨#[10]⟩ : ByteArray) ++ t144) ++ (⟨#[60, 108, 105, 62]⟩ : ByteArray)).size + ((rd_T49 l0 x14_1).f0).size) = (1 + t144.size + 4 + ((rd_T49 l0 x14_1).f0).size) := (by (simp only [ByteArray.size_append]; first | done | rfl)); have z_ := c34; rw [e_] at z_; omega)
                                  by_cases c35 : ((((⟨#[10]⟩ : ByteArray) ++ t144) ++ (⟨#[60, 108, 105, 62]⟩ : ByteArray)) ++ ((rd_T49 l0 x14_1).f0)).size + 5 ≤ 9223372036854775807
                                  · rw [if_pos c35] at H
                                    have c35b0 := eq_true c35
                                    have c35b1 : decide (((((⟨#[10]⟩ : ByteArray) ++ t144) ++ (⟨#[60, 108, 105, 62]⟩ : ByteArray)) ++ ((rd_T49 l0 x14_1).f0)).size + 5 ≤ 9223372036854775807) = true := decide_eq_true c35
                                    try have c35b2 : (9223372036854775807 < ((((⟨#[10]⟩ : ByteArray) ++ t144) ++ (⟨#[60, 108, 105, 62]⟩ : ByteArray)) ++ ((rd_T49 l0 x14_1).f0)).size + 5) = False := eq_false (Nat.not_lt.2 c35)
                                    try have c35b3 : (9223372036854775807 < 1 + t144.size + 4 + ((rd_T49 l0 x14_1).f0).size + 5) = False := eq_false (by have e_ : (((((⟨#[10]⟩ : ByteArray) ++ t144) ++ (⟨#[60, 108, 105, 62]⟩ : ByteArray)) ++ ((rd_T49 l0 x14_1).f0)).size + 5) = (1 + t144.size + 4 + ((rd_T49 l0 x14_1).f0).size + 5) := (by (simp only [ByteArray.size_append]; first | done | rfl)); have z_ := c35; rw [e_] at z_; omega)
                                    by_cases c36 : x5_3.size + (((((⟨#[10]⟩ : ByteArray) ++ t144) ++ (⟨#[60, 108, 105, 62]⟩ : ByteArray)) ++ ((rd_T49 l0 x14_1).f0)) ++ (⟨#[60, 47, 108, 105, 62]⟩ : ByteArray)).size ≤ 9223372036854775807
                                    · rw [if_pos c36] at H
                                      have c36b0 := eq_true c36
                                      have c36b1 : decide (x5_3.size + (((((⟨#[10]⟩ : ByteArray) ++ t144) ++ (⟨#[60, 108, 105, 62]⟩ : ByteArray)) ++ ((rd_T49 l0 x14_1).f0)) ++ (⟨#[60, 47, 108, 105, 62]⟩ : ByteArray)).size ≤ 9223372036854775807) = true := decide_eq_true c36
                                      try have c36b2 : (9223372036854775807 < x5_3.size + (((((⟨#[10]⟩ : ByteArray) ++ t144) ++ (⟨#[60, 108, 105, 62]⟩ : ByteArray)) ++ ((rd_T49 l0 x14_1).f0)) ++ (⟨#[60, 47, 108, 105, 62]⟩ : ByteArray)).size) = False := eq_false (Nat.not_lt.2 c36)
                                      try have c36b3 : (9223372036854775807 < x5_3.size + (1 + t144.size + 4 + ((rd_T49 l0 x14_1).f0).size + 5)) = False := eq_false (by have e_ : (x5_3.size + (((((⟨#[10]⟩ : ByteArray) ++ t144) ++ (⟨#[60, 108, 105, 62]⟩ : ByteArray)) ++ ((rd_T49 l0 x14_1).f0)) ++ (⟨#[60, 47, 108, 105, 62]⟩ : ByteArray)).size) = (x5_3.size + (1 + t144.size + 4 + ((rd_T49 l0 x14_1).f0).size + 5)) := (by (simp only [ByteArray.size_append]; first | done | rfl)); have z_ := c36; rw [e_] at z_; omega)
                                      have H' := Aside0.mk H
                                      clear H
                                      have hcz37_0 : wr.cell? ⟨gb140, 0, none⟩ = some (.string ((rd_T49 l0 x14_1).f0)) := (blk_cell BK140.out 0).trans rfl
                                      have hcz37_1 : wr.cell? ⟨gb140, 1, none⟩ = some (.int .i64 ((rd_T49 l0 x14_1).f1)) := (blk_cell BK140.out 1).trans rfl
                                      have hfz37_0 := blk_frozen BK140.out 0
                                      have hfz37_1 := blk_frozen BK140.out 1
                                      try go_wp2
                                      have n0_ := Aside0.mk (blk_drew BK140.out)
                                      have n1_ := Aside0.mk (below_drew1 HB.out)
                                      clear BK140
                                      clear HB
                                      have BK140 := n0_
                                      have HB := n1_
                                      clear n0_ n1_
                                      refine start_ (n := 12) (S := fun w' => w'.cell? ⟨gb140, 0, none⟩ = some (.string ((rd_T49 l0 x14_1).f0)) ∧ w'.cell? ⟨gb140, 1, none⟩ = some (.int .i64 ((rd_T49 l0 x14_1).f1))) (ds := []) #[false, false, false, false, false, false, false, false, false, false, false, false] (by kernel_rfl) rfl rfl ⟨(blk_cell BK140.out 0).trans rfl, (blk_cell BK140.out 1).trans rfl⟩ (fun hHeld => ?_); refine with_tabW spec_LsHTML.tab12 spec_LsHTML.bits12 (fun HT_ HW_ => ?_)
                                      generalize wr.drew = w38 at BK140 HB hHeld ⊢
                                      refine pure_ (i := 0) (N := some 51) (v := ?_) (a' := ?_) #[true, false, false, false, false, false, false, false, false, false, false, false] rfl rfl (any_of HT_.out (by kernel_rfl)) (fun _ _ _ h => h) (Or.inl ⟨by rfl, ?_⟩) ?_ ?_
                                      rotate_left
                                      · intro w'
                                        go_simp
                                        with_reducible rfl
                                      rotate_left
                                      · simp only [Act.put, List.setIfInBounds_toArray, List.set_cons_zero, List.set_cons_succ, i64_w, i32_w]
                                        rfl
                                      refine pure_ (i := 1) (N := some 52) (v := ?_) (a' := ?_) #[true, true, false, false, false, false, false, false, false, false, false, false] rfl rfl (any_of HT_.out (by kernel_rfl)) (fun _ _ _ h => h) (Or.inl ⟨by rfl, ?_⟩) ?_ ?_
                                      rotate_left
                                      · intro w'
                                        go_simp
                                        with_reducible rfl
                                      rotate_left
                                      · simp only [Act.put, List.setIfInBounds_toArray, List.set_cons_zero, List.set_cons_succ, i64_w, i32_w]
                                        rfl
                                      refine pure_ (i := 2) (N := some 53) (v := ?_) (a' := ?_) #[true, true, true, false, false, false, false, false, false, false, false, false] rfl rfl (any_of HT_.out (by kernel_rfl)) (fun _ _ _ h => h) (Or.inl ⟨by rfl, ?_⟩) ?_ ?_
                                      rotate_left
                                      · intro w'
                                        go_simp
                                        with_reducible rfl
                                      rotate_left
                                      · simp only [Act.put, List.setIfInBounds_toArray, List.set_cons_zero, List.set_cons_succ, i64_w, i32_w]
                                        rfl
                                      refine pure_ (i := 6) (N := some 57) (v := ?_) (a' := ?_) #[true, true, true, false, false, false, true, false, false, false, false, false] rfl rfl (any_of HT_.out (by kernel_rfl)) (fun _ _ _ h => h) (Or.inl ⟨by rfl, ?_⟩) ?_ ?_
                                      rotate_left
                                      · intro w'
                                        go_simp
                                        with_reducible rfl
                                      rotate_left
                                      · simp only [Act.put, List.setIfInBounds_toArray, List.set_cons_zero, List.set_cons_succ, i64_w, i32_w]
                                        rfl
                                      refine take_ (i := 7) (N := some 58) (v := ?_) (a' := ?_) #[true, true, true, false, false, false, true, true, false, false, false, false] rfl rfl (take_ofW HT_.out HW_.out (by kernel_rfl)) (fun _ _ _ h => h) (Or.inl ⟨by rfl, ?_⟩) hHeld ?_ ?_
                                      rotate_left
                                      · rintro w' ⟨s0, s1⟩
                                        go_simp
                                        with_reducible rfl
                                      rotate_left
                                      · simp only [Act.put, List.setIfInBounds_toArray, List.set_cons_zero, List.set_cons_succ, i64_w, i32_w]
                                        rfl
                                      refine one_ (i := 3) (N := some 54) #[true, true, true, true, false, false, true, true, false, false, false, false] rfl rfl (one_of HT_.out (by kernel_rfl)) (by decide) (fun K hK => ?_)
                                      refine goes_ Try.func24 (by kernel_rfl) rfl #[.string (⟨#[32, 32]⟩ : ByteArray), .int .i64 (wrap64 (x6_3 + 1))] (by rfl) rfl rfl (by (try simp only [List.map_toArray, List.map_cons, List.map_nil]); first | done | rfl | (simp only [List.length_drop, List.length_take]; rfl)) ?_
                                      with_reducible refine (spec_TxTimes.calls (⟨#[32, 32]⟩ : ByteArray) (wrap64 (x6_3 + 1)) t144 _ A31.out).mono ?_
                                      rintro e w39 ⟨rfl, hb⟩
                                      refine ⟨_, rfl, ?_⟩
                                      have n0_ := Aside0.mk (blk_below (g := gb140) (o := .cells #[.string ((rd_T49 l0 x14_1).f0), .int .i64 ((rd_T49 l0 x14_1).f1)] 49 (0, 0)) (by (with_reducible repeat (first | refine blk_drewN ?_ _ | refine blk_drew ?_ | refine blk_alloc ?_ _)); exact BK140.out) hb)
                                      have n1_ := Aside0.mk (below_step (by repeat (first | (with_reducible first | exact HB.out | apply below_alloc | apply pw_below_drewN | apply below_drew1 | refine below_set ?_ GE140.out) | exact HB.out)) hb)
                                      clear BK140
                                      clear HB
                                      have BK140 := n0_
                                      have HB := n1_
                                      clear n0_ n1_
                                      (try clear hb)
                                      (try clear hb2)
                                      (try clear hk)
                                      (try clear hi)
                                      refine hK.out _ _ ⟨(blk_cell BK140.out 0).trans rfl, (blk_cell BK140.out 1).trans rfl⟩ (fun hHeld => ?_)
                                      clear hK K
                                      refine norm_ (a' := ?_) ?_ ?_
                                      rotate_left
                                      · show Act.put _ (some 54) _ = _
                                        simp only [Act.put, List.setIfInBounds_toArray, List.set_cons_zero, List.set_cons_succ, i64_w, i32_w]
                                        rfl
                                      refine pure_ (i := 4) (N := some 55) (v := ?_) (a' := ?_) #[true, true, true, true, true, false, true, true, false, false, false, false] rfl rfl (any_of HT_.out (by kernel_rfl)) (fun _ _ _ h => h) (Or.inl ⟨by rfl, ?_⟩) ?_ ?_
                                      rotate_left
                                      · intro w'
                                        go_simp
                                        with_reducible rfl
                                      rotate_left
                                      · simp only [Act.put, List.setIfInBounds_toArray, List.set_cons_zero, List.set_cons_succ, i64_w, i32_w]
                                        rfl
                                      refine pure_ (i := 5) (N := some 56) (v := ?_) (a' := ?_) #[true, true, true, true, true, true, true, true, false, false, false, false] rfl rfl (any_of HT_.out (by kernel_rfl)) (fun _ _ _ h => h) (Or.inl ⟨by rfl, ?_⟩) ?_ ?_
                                      rotate_left
                                      · intro w'
                                        go_simp
                                        with_reducible rfl
                                      rotate_left
                                      · simp only [Act.put, List.setIfInBounds_toArray, List.set_cons_zero, List.set_cons_succ, i64_w, i32_w]
                                        rfl
                                      refine pure_ (i := 8) (N := some 59) (v := ?_) (a' := ?_) #[true, true, true, true, true, true, true, true, true, false, false, false] rfl rfl (any_of HT_.out (by kernel_rfl)) (fun _ _ _ h => h) (Or.inl ⟨by rfl, ?_⟩) ?_ ?_
                                      rotate_left
                                      · intro w'
                                        go_simp
                                        with_reducible rfl
                                      rotate_left
                                      · simp only [Act.put, List.setIfInBounds_toArray, List.set_cons_zero, List.set_cons_succ, i64_w, i32_w]
                                        rfl
                                      refine pure_ (i := 9) (N := some 60) (v := ?_) (a' := ?_) #[true, true, true, true, true, true, true, true, true, true, false, false] rfl rfl (any_of HT_.out (by kernel_rfl)) (fun _ _ _ h => h) (Or.inl ⟨by rfl, ?_⟩) ?_ ?_
                                      rotate_left
                                      · intro w'
                                        go_simp
                                        with_reducible rfl
                                      rotate_left
                                      · simp only [Act.put, List.setIfInBounds_toArray, List.set_cons_zero, List.set_cons_succ, i64_w, i32_w]
                                        rfl
                                      refine pure_ (i := 10) (N := some 61) (v := ?_) (a' := ?_) #[true, true, true, true, true, true, true, true, true, true, true, false] rfl rfl (any_of HT_.out (by kernel_rfl)) (fun _ _ _ h => h) (Or.inl ⟨by rfl, ?_⟩) ?_ ?_
                                      rotate_left
                                      · intro w'
                                        go_simp
                                        with_reducible rfl
                                      rotate_left
                                      · simp only [Act.put, List.setIfInBounds_toArray, List.set_cons_zero, List.set_cons_succ, i64_w, i32_w]
                                        rfl
                                      refine pure_ (i := 11) (N := some 5) (v := ?_) (a' := ?_) #[true, true, true, true, true, true, true, true, true, true, true, true] rfl rfl (any_of HT_.out (by kernel_rfl)) (fun _ _ _ h => h) (Or.inl ⟨by rfl, ?_⟩) ?_ ?_
                                      rotate_left
                                      · intro w'
                                        go_simp
                                        with_reducible rfl
                                      rotate_left
                                      · simp only [Act.put, List.setIfInBounds_toArray, List.set_cons_zero, List.set_cons_succ, i64_w, i32_w]
                                        rfl
                                      refine done_ (done_of HT_.out (by kernel_rfl)) ?_
                                      try go_wp2
                                      go_roundg k3
                                      case measure => have := HK1.out; have := HK2.out; have := HK3.out; omega
                                      case rel => exact ⟨(x5_3 ++ (((((⟨#[10]⟩ : ByteArray) ++ t144) ++ (⟨#[60, 108, 105, 62]⟩ : ByteArray)) ++ ((rd_T49 l0 x14_1).f0)) ++ (⟨#[60, 47, 108, 105, 62]⟩ : ByteArray))), (x6_3), (wrap64 (x14_1 + 1)), (by first | rfl | (simp; done) | (simp [*]; done)), (by first | rfl | (simp; done) | (simp [*]; done)), (by first | rfl | (simp; done) | (simp [*]; done)), H', ⟨by have := HK1.out; have := HK2.out; have := HK3.out; omega⟩, ⟨by repeat (first | (with_reducible first | exact HB.out | apply below_alloc | apply pw_below_drewN | apply below_drew1 | refine below_set ?_ GE140.out) | exact HB.out)⟩⟩
                                    · rw [if_neg c36] at H
                                      exact absurd H (by simp)
                                  · rw [if_neg c35] at H
                                    exact absurd H (by simp)
                                · rw [if_neg c34] at H
                                  exact absurd H (by simp)
                              · rw [if_neg c33] at H
                                exact absurd H (by simp)
                            · rw [if_neg c32] at H
                              exact absurd H (by simp)
              · rw [if_neg c7] at H
                exact absurd H (by simp)
            · rw [if_neg c6] at H
              exact absurd H (by simp)
          · rw [if_neg c5] at H
            have c5b0 : decide (x14_1 < (l0.length : Int)) = false := decide_eq_false c5
            clear c5
            have H' := Aside0.mk H
            clear H
            go_wp2
            go_loopg [5, 6] k1 (fun kq v5 v6 w' => ∃ (x5_2 : ByteArray) (x6_2 : Int), v5 = .string x5_2 ∧ v6 = .int .i64 x6_2 ∧ Aside0 (spec_LsHTML.l3 kq x5_2 x6_2 = some r) ∧ Aside0 (kq ≤ k1) ∧ Aside0 (Below w.heap.size w w'))
            case atStart => exact ⟨(x5_1), (x6_1), (by first | rfl | (simp; done) | (simp [*]; done)), (by first | rfl | (simp; done) | (simp [*]; done)), H', ⟨Nat.le_refl _⟩, ⟨by repeat (first | (with_reducible first | exact HB.out | apply below_alloc | apply pw_below_drewN | apply below_drew1) | exact HB.out)⟩⟩
            case round =>
              clear H'
              try clear c1
              try clear p1
              try clear q1
              try clear hx1
              try clear c2
              try clear p2
              try clear c3
              try clear c3b0
              try clear c3b1
              try clear c3b2
              try clear c4
              try clear c4b0
              try clear c4b1
              try clear c4b2
              try clear c5
              try clear c5b0
              try clear c6
              try clear c6b0
              try clear p6
              try clear c7
              try clear c7b0
              try clear c10
              try clear c10b0
              try clear c12
              try clear c12b0
              try clear c12b1
              try clear c12b2
              try clear c13
              try clear c13b0
              try clear c13b1
              try clear c13b2
              try clear p13
              try clear q13
              try clear hx13
              try clear c14
              try clear c14b0
              try clear c14b1
              try clear c14b2
              try clear c15
              try clear c15b0
              try clear c15b1
              try clear c15b2
              try clear c17
              try clear c17b0
              try clear c17b1
              try clear c17b2
              try clear c18
              try clear c18b0
              try clear c18b1
              try clear c18b2
              try clear c19
              try clear c19b0
              try clear c19b1
              try clear c19b2
              try clear c24
              try clear c24b0
              try clear c25
              try clear c26
              try clear c26b0
              try clear c26b1
              try clear c26b2
              try clear c27
              try clear c27b0
              try clear c27b1
              try clear c27b2
              try clear c28
              try clear c28b0
              try clear c28b1
              try clear c28b2
              try clear c32
              try clear c32b0
              try clear c32b1
              try clear c32b2
              try clear c33
              try clear c33b0
              try clear c33b1
              try clear c33b2
              try clear c34
              try clear c34b0
              try clear c34b1
              try clear c34b2
              try clear c35
              try clear c35b0
              try clear c35b1
              try clear c35b2
              try clear c36
              try clear c36b0
              try clear c36b1
              try clear c36b2
              try clear hcz20_0
              try clear hcz20_1
              try clear hcz23_0
              try clear hcz23_1
              try clear hcz29_0
              try clear hcz29_1
              try clear hcz37_0
              try clear hcz37_1
              try clear hcz9_0
              try clear hcz9_1
              try clear hfz20_0
              try clear hfz20_1
              try clear hfz23_0
              try clear hfz23_1
              try clear hfz29_0
              try clear hfz29_1
              try clear hfz37_0
              try clear hfz37_1
              try clear hfz9_0
              try clear hfz9_1
              try clear hx139_0
              try clear hx139_1
              try clear p1
              try clear p13
              try clear p139
              try clear p2
              try clear p6
              try clear q1
              try clear q13
              try clear q139
              obtain ⟨x5_2, x6_2, rfl, rfl, HA, HK2, HB⟩ := hrel
              cases gk with
              | zero => exact absurd HA.out (by simp [spec_LsHTML.l3])
              | succ k2 =>
                have H := HA.out
                clear HA
                simp only [spec_LsHTML.l3] at H
                by_cases c40 : x6_2 > 0
                · rw [if_pos c40] at H
                  have c40b0 : decide (0 < x6_2) = true := decide_eq_true c40
                  clear c40
                  replace H := Option.bind_eq_some_iff.mp H
                  obtain ⟨t145, A410, H⟩ := H
                  replace H : (if 1 + t145.size ≤ 9223372036854775807 then (if ((⟨#[10]⟩ : ByteArray) ++ t145).size + 5 ≤ 9223372036854775807 then (if x5_2.size + (((⟨#[10]⟩ : ByteArray) ++ t145) ++ (⟨#[60, 47, 117, 108, 62]⟩ : ByteArray)).size ≤ 9223372036854775807 then (spec_LsHTML.l3 k2 (x5_2 ++ (((⟨#[10]⟩ : ByteArray) ++ t145) ++ (⟨#[60, 47, 117, 108, 62]⟩ : ByteArray))) (wrap64 (x6_2 - 1))) else (none)) else (none)) else (none)) = some r := H
                  have A41 := Aside0.mk A410
                  clear A410
                  by_cases c42 : 1 + t145.size ≤ 9223372036854775807
                  · rw [if_pos c42] at H
                    have c42b0 := eq_true c42
                    have c42b1 : decide (1 + t145.size ≤ 9223372036854775807) = true := decide_eq_true c42
                    try have c42b2 : (9223372036854775807 < 1 + t145.size) = False := eq_false (Nat.not_lt.2 c42)
                    by_cases c43 : ((⟨#[10]⟩ : ByteArray) ++ t145).size + 5 ≤ 9223372036854775807
                    · rw [if_pos c43] at H
                      have c43b0 := eq_true c43
                      have c43b1 : decide (((⟨#[10]⟩ : ByteArray) ++ t145).size + 5 ≤ 9223372036854775807) = true := decide_eq_true c43
                      try have c43b2 : (9223372036854775807 < ((⟨#[10]⟩ : ByteArray) ++ t145).size + 5) = False := eq_false (Nat.not_lt.2 c43)
                      try have c43b3 : (9223372036854775807 < 1 + t145.size + 5) = False := eq_false (by have e_ : (((⟨#[10]⟩ : ByteArray) ++ t145).size + 5) = (1 + t145.size + 5) := (by (simp only [ByteArray.size_append]; first | done | rfl)); have z_ := c43; rw [e_] at z_; omega)
                      by_cases c44 : x5_2.size + (((⟨#[10]⟩ : ByteArray) ++ t145) ++ (⟨#[60, 47, 117, 108, 62]⟩ : ByteArray)).size ≤ 9223372036854775807
                      · rw [if_pos c44] at H
                        have c44b0 := eq_true c44
                        have c44b1 : decide (x5_2.size + (((⟨#[10]⟩ : ByteArray) ++ t145) ++ (⟨#[60, 47, 117, 108, 62]⟩ : ByteArray)).size ≤ 9223372036854775807) = true := decide_eq_true c44
                        try have c44b2 : (9223372036854775807 < x5_2.size + (((⟨#[10]⟩ : ByteArray) ++ t145) ++ (⟨#[60, 47, 117, 108, 62]⟩ : ByteArray)).size) = False := eq_false (Nat.not_lt.2 c44)
                        try have c44b3 : (9223372036854775807 < x5_2.size + (1 + t145.size + 5)) = False := eq_false (by have e_ : (x5_2.size + (((⟨#[10]⟩ : ByteArray) ++ t145) ++ (⟨#[60, 47, 117, 108, 62]⟩ : ByteArray)).size) = (x5_2.size + (1 + t145.size + 5)) := (by (simp only [ByteArray.size_append]; first | done | rfl)); have z_ := c44; rw [e_] at z_; omega)
                        have H' := Aside0.mk H
                        clear H
                        go_wp2_with (first | ((with_reducible refine gate_callee (f := 24) rfl ?_); refine goesL_ (some 69) rfl rfl Try.func24 (by kernel_rfl) rfl #[.string (⟨#[32, 32]⟩ : ByteArray), .int .i64 x6_2] rfl (by (try simp only [List.map_toArray, List.map_cons, List.map_nil]); first | done | rfl | (simp only [List.length_drop, List.length_take]; rfl)) ?_; (with_reducible refine (spec_TxTimes.calls (⟨#[32, 32]⟩ : ByteArray) x6_2 t145 _ A41.out).mono ?_); rintro e w45 ⟨rfl, hb⟩; refine ⟨_, rfl, ?_⟩; have n0_ := Aside0.mk (below_step (by repeat (first | (with_reducible first | exact HB.out | apply below_alloc | apply pw_below_drewN | apply below_drew1) | exact HB.out)) hb); clear HB; have HB := n0_; clear n0_; (try clear hb); (try clear hb2); (try clear hk); (try clear hi)))
                        go_roundg k2
                        case measure => have := HK1.out; have := HK2.out; omega
                        case rel => exact ⟨(x5_2 ++ (((⟨#[10]⟩ : ByteArray) ++ t145) ++ (⟨#[60, 47, 117, 108, 62]⟩ : ByteArray))), (wrap64 (x6_2 - 1)), (by first | rfl | (simp; done) | (simp [*]; done)), (by first | rfl | (simp; done) | (simp [*]; done)), H', ⟨by have := HK1.out; have := HK2.out; omega⟩, ⟨by repeat (first | (with_reducible first | exact HB.out | apply below_alloc | apply pw_below_drewN | apply below_drew1) | exact HB.out)⟩⟩
                      · rw [if_neg c44] at H
                        exact absurd H (by simp)
                    · rw [if_neg c43] at H
                      exact absurd H (by simp)
                  · rw [if_neg c42] at H
                    exact absurd H (by simp)
                · rw [if_neg c40] at H
                  have c40b0 : decide (0 < x6_2) = false := decide_eq_false c40
                  clear c40
                  by_cases c46 : x5_2.size + 6 ≤ 9223372036854775807
                  · rw [if_pos c46] at H
                    have c46b0 := eq_true c46
                    have c46b1 : decide (x5_2.size + 6 ≤ 9223372036854775807) = true := decide_eq_true c46
                    try have c46b2 : (9223372036854775807 < x5_2.size + 6) = False := eq_false (Nat.not_lt.2 c46)
                    obtain rfl := Option.some.inj H
                    go_wp2
                    go_ret
                    exact ⟨by first | rfl | (simp [errW_none, errW_some] <;> rfl) | (simp [*, errW_none, errW_some] <;> rfl), by repeat (first | (with_reducible first | exact HB.out | apply below_alloc | apply pw_below_drewN | apply below_drew1) | exact HB.out)⟩
                  · rw [if_neg c46] at H
                    exact absurd H (by simp)
    · rw [if_neg c4] at H
      exact absurd H (by simp)
  · rw [if_neg c3] at H
    exact absurd H (by simp)

end Go.Proofs.Ytphnnbbgcnilgaa.GFnListHTML
