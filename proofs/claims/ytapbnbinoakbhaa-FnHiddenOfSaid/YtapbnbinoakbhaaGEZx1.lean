-- printed by a program of this session (gprint.py) out of the translation; Lean checks it
import Derived.Test.YtapbnbinoakbhaaGEZx0
namespace Go.Proofs.Ytapbnbinoakbhaa.GEZ
open Go.RowKit Go.Proofs.YtapbnbinoakbhaaW.PrintWords Go.Proofs.YtapbnbinoakbhaaW.PrintLast Go.Proofs.YtapbnbinoakbhaaW.PrintMore
attribute [local go_sem] max2_int min2_int max_two min_two max_three min_three max_four min_four   -- for this text's walks alone
set_option linter.unusedVariables false
set_option linter.unusedSimpArgs false

/-! ### table_zzRows: function 63 -/
def table_zzRows.l0 : Nat → List (List ByteArray) → List (List ByteArray) → Int → Int → Option ((List (List ByteArray)))
  | 0, _, _, _, _ => none
  | k + 1, x3, x6, x7, x8 => if x8 < x7 then (if 0 ≤ x8 then (if x8 < (x6.length : Int) then (if x3.length < 5864062014805 then (table_zzRows.l0 k (x3 ++ [rd_L1 x6 x8]) x6 x7 (wrap64 (x8 + 1))) else (none)) else (none)) else (none)) else (some x3)
def table_zzRows.f (k : Nat) (l0 : List (List ByteArray)) : Option ((List (List ByteArray))) := table_zzRows.l0 k ([] : List (List ByteArray)) l0 (l0.length : Int) 0
theorem table_zzRows.mono_l : ∀ k, (∀ y0 y1 y2 y3, LeO (table_zzRows.l0 k y0 y1 y2 y3) (table_zzRows.l0 (k + 1) y0 y1 y2 y3))
  | 0 => fun _ _ _ _ r h => by simp [table_zzRows.l0] at h
  | k + 1 => by
    have ih0 := table_zzRows.mono_l k
    · intro y0 y1 y2 y3
      unfold table_zzRows.l0
      repeat' first
      | (with_reducible exact ih0 _ _ _ _)
      | (with_reducible exact LeO.refl _)
      | (with_reducible exact LeO.none _)
      | (with_reducible refine LeO.ite ?_ ?_)
      | (with_reducible refine LeO.bind ?_ (fun _ => ?_))
      | exact ih0 _ _ _ _
      | exact LeO.none _
      | refine LeO.ite ?_ ?_
      | refine LeO.bind ?_ (fun _ => ?_)
theorem table_zzRows.mono : ∀ a0 k, LeO (table_zzRows.f k a0) (table_zzRows.f (k + 1) a0) := by
  intro a0 k
  have ih0 := table_zzRows.mono_l k
  unfold table_zzRows.f
  repeat' first
      | (with_reducible exact ih0 _ _ _ _)
      | (with_reducible exact LeO.refl _)
      | (with_reducible exact LeO.none _)
      | (with_reducible refine LeO.ite ?_ ?_)
      | (with_reducible refine LeO.bind ?_ (fun _ => ?_))
      | exact ih0 _ _ _ _
      | exact LeO.none _
      | refine LeO.ite ?_ ?_
      | refine LeO.bind ?_ (fun _ => ?_)
set_option maxHeartbeats 8000000 in
set_option maxRecDepth 100000 in
theorem table_zzRows.calls (k : Nat) (P0_ : Nat → Prop) (A0 : Option Addr) (c0 : Nat) (l0 : List (List ByteArray)) (r : List (List ByteArray)) (w : World) (hs0 : Kd.V (Kd.slice 9 Kd.string) 109 w w.heap.size (fun k_ => P0_ k_) (.slice A0 l0.length c0) l0) (h : table_zzRows.f k l0 = some r) :
    Calls Try.prog 63 #[.slice A0 l0.length c0] w fun e w' => ∃ v0_ : Value, e = .returned (v0_) ∧ Kd.N (Kd.slice 9 Kd.string) 162 w' w.heap.size (fun k_ => (P0_ k_ ∨ w.heap.size ≤ k_)) v0_ r ∧ Below w.heap.size w w' := by
  have HO0 := Aside0.mk (show Kd.V (Kd.slice 9 Kd.string) 109 w w.heap.size (fun k_ => (P0_ k_ ∨ w.heap.size ≤ k_)) (.slice A0 l0.length c0) l0 from Kd.V_mono hs0 (fun k_ hk => .inl hk))
  have HB := Aside0.mk (Below.refl w.heap.size w)
  have H : (table_zzRows.l0 k ([] : List (List ByteArray)) l0 (l0.length : Int) 0) = some r := h
  clear h
  have H' := Aside0.mk H
  clear H
  go_enter Try.func63, Try.ntmps63
  go_wp2
  go_loopg [3, 8] k (fun kq v3 v8 w' => ∃ (x3_1 : List (List ByteArray)) (x8_1 : Int), v8 = .int .i64 x8_1 ∧ Aside0 (table_zzRows.l0 kq x3_1 l0 (l0.length : Int) x8_1 = some r) ∧ Aside0 (kq ≤ k) ∧ Aside0 (Kd.N (Kd.slice 9 Kd.string) 162 w' w.heap.size (fun k_ => (P0_ k_ ∨ w.heap.size ≤ k_)) v3 x3_1) ∧ Aside0 (Kd.V (Kd.slice 9 Kd.string) 109 w' w.heap.size (fun k_ => (P0_ k_ ∨ w.heap.size ≤ k_) ∧ some k_ ≠ (v3 : Value).ownBlock) (.slice A0 l0.length c0) l0) ∧ Aside0 (Below w.heap.size w w'))
  case atStart => exact ⟨(([] : List (List ByteArray))), (0), (by first | rfl | (simp; done) | (simp [*]; done)), H', ⟨Nat.le_refl _⟩, ⟨by first | exact Kd.S_nil _ _ _ _ _ | exact Kd.N_nil _ _ _ _ _ | exact Kd.V_nil _ _ _ _ _ | exact Kd.Q_nil _ _ _ _ _ | exact Kd.R_nil _ _ _ _ _⟩, ⟨by (with_reducible repeat (first | apply Kd.V_alloc | apply Kd.V_drewN | apply Kd.V_drew)); exact Kd.V_mono HO0.out (fun _ hk => ⟨hk, (by simp [Value.ownBlock])⟩)⟩, ⟨by repeat (first | (with_reducible first | exact HB.out | apply below_alloc | apply pw_below_drewN | apply below_drew1) | exact HB.out)⟩⟩
  case round =>
    clear H'
    obtain ⟨x3_1, x8_1, rfl, HA, HK1, HO_3, HO_6, HB⟩ := hrel
    cases gk with
    | zero => exact absurd HA.out (by simp [table_zzRows.l0])
    | succ k1 =>
      have H := HA.out
      clear HA
      simp only [table_zzRows.l0] at H
      by_cases c2 : x8_1 < (l0.length : Int)
      · rw [if_pos c2] at H
        have c2b0 : decide (x8_1 < (l0.length : Int)) = true := decide_eq_true c2
        clear c2
        by_cases c3 : 0 ≤ x8_1
        · rw [if_pos c3] at H
          have c3b0 : decide (0 ≤ x8_1) = true := decide_eq_true c3
          clear c3
          by_cases c4 : x8_1 < (l0.length : Int)
          · rw [if_pos c4] at H
            have c4b0 : decide (x8_1 < (l0.length : Int)) = true := decide_eq_true c4
            clear c4
            by_cases c5 : x3_1.length < 5864062014805
            · rw [if_pos c5] at H
              have LMc5 := Aside0.mk c5
              clear c5
              obtain ⟨y102, hy102⟩ : ∃ y_ : List (List ByteArray), y_ = (x3_1 ++ [rd_L1 l0 x8_1]) := ⟨_, rfl⟩
              replace H : (table_zzRows.l0 k1 y102 l0 (l0.length : Int) (wrap64 (x8_1 + 1))) = some r := by first | (rw [hy102]; with_reducible exact H) | (have H2_ := (Option.bind_some _ _).symm.trans H; rw [hy102]; with_reducible exact H2_) | (have H2_ := (Option.bind_some _ _).symm.trans H; with_reducible exact H2_) | with_reducible exact H | (rw [hy102]; exact H) | exact H
              have Ny102 := Aside0.mk hy102
              clear hy102
              have H' := Aside0.mk H
              clear H
              have p101 : 0 ≤ (x8_1 : Int) := of_decide_eq_true (by first | (with_reducible assumption) | assumption)
              have q101 : x8_1 < (l0.length : Int) := of_decide_eq_true (by first | (with_reducible assumption) | assumption)
              obtain ⟨ad101, A101_0, c101_0, e101, hx101_0, hl101_0, hi101_0⟩ := at_L1 (Kd.V_reads' HO_6.out).2.2 x8_1 p101 q101
              cases e101
              obtain ⟨ce101, hce101, hMe101, hcc101⟩ := Kd.V_get HO_6.out [] x8_1 p101 (by first | exact q101 | exact of_decide_eq_true (by first | (with_reducible assumption) | assumption) | (have e_ := (Kd.V_reads' HO_6.out).1; omega))
              obtain ⟨ua101_0, uc101_0, rfl, ul101_0, ge101_0⟩ := Kd.FK_slice_open hMe101
              have hv101_0 := hcc101 0 _ rfl
              rw [Nat.add_zero, show ((Kd.slice 9 Kd.string)).sz = 1 from rfl, Nat.mul_one] at hv101_0
              replace hv101_0 := Option.some.inj (hv101_0.symm.trans hx101_0)
              injection hv101_0 with hva_ hvn_ hvc_
              rw [hva_] at ge101_0
              rw [hvc_] at ul101_0
              have HL101_0 := Aside0.mk (show Kd.V Kd.string 9 _ w.heap.size _ _ (rd_L1 l0 x8_1) from Kd.V_mk ul101_0 ge101_0)
              clear hva_ hvn_ hvc_ ge101_0 ul101_0
              clear hcc101 hce101
              have HR101_0 := Aside0.mk hi101_0
              have HC101_0 := Aside0.mk hl101_0
              clear hi101_0 hl101_0
              replace p101 := eq_true p101
              replace q101 := eq_true q101
              go_wp2_with (first | ((with_reducible refine gate_builtin (b := .append) (xs := #[.tmp 12, .tmp 14]) rfl ?_); at_builtin; refine Kd.N_append (Kd.slice 9 Kd.string) (w0 := w) w.heap.size rfl (.tmp 12) (.tmp 14) 138 162 (.slice none 0 0) 24 rfl Try.underlying138 info162 rfl (by decide) (by omega) u3 x3_1 (rd_L1 l0 x8_1) [.slice A101_0 (rd_L1 l0 x8_1).length c101_0] (fun k_ => (P0_ k_ ∨ w.heap.size ≤ k_)) (fun k_ => ((fun k_ => (P0_ k_ ∨ w.heap.size ≤ k_))) k_ ∧ some k_ ≠ (u3 : Value).ownBlock) rfl rfl ?aP (fun _ hk => hk) ?aF ?aO ?aB ?aS ?aL ?_; (case aP => exact (Kd.FK_slice_mk (Kd.V_reads' (Kd.V_mono (ok' := (fun k_ => ((fun k_ => (P0_ k_ ∨ w.heap.size ≤ k_))) k_ ∧ some k_ ≠ (u3 : Value).ownBlock)) (HL101_0.out) (fun k_ hk => ⟨hk.1, hk.2⟩))).2.1 (Kd.V_F (Kd.V_mono (ok' := (fun k_ => ((fun k_ => (P0_ k_ ∨ w.heap.size ≤ k_))) k_ ∧ some k_ ≠ (u3 : Value).ownBlock)) (HL101_0.out) (fun k_ hk => ⟨hk.1, hk.2⟩))))); (case aB => exact (by repeat (first | (with_reducible first | exact HB.out | apply below_alloc | apply pw_below_drewN | apply below_drew1) | exact HB.out))); (case aF => exact (fun k_ hk => (.inr (Nat.le_trans (below_size (by repeat (first | (with_reducible first | exact HB.out | apply below_alloc | apply pw_below_drewN | apply below_drew1) | exact HB.out))) hk)))); (case aO => exact (by (with_reducible repeat (first | apply Kd.N_alloc | apply Kd.N_drewN | apply Kd.N_drew)); exact HO_3.out)); (case aS => exact (below_size (by repeat (first | (with_reducible first | exact HB.out | apply below_alloc | apply pw_below_drewN | apply below_drew1) | exact HB.out)))); (case aL => have := LMc5.out; omega); intro v103 w6 ho hb hg hat; rw [← Ny102.out] at ho; have n0_ := Aside0.mk (Kd.V_afterv (ok := (fun k_ => (P0_ k_ ∨ w.heap.size ≤ k_))) (by (with_reducible repeat (first | apply Kd.V_alloc | apply Kd.V_drewN | apply Kd.V_drew)); exact HO_6.out) hg hat); have n1_ := Aside0.mk (Kd.V_afterv (ok := (fun k_ => (P0_ k_ ∨ w.heap.size ≤ k_))) (by (with_reducible repeat (first | apply Kd.V_alloc | apply Kd.V_drewN | apply Kd.V_drew)); exact HL101_0.out) hg hat); have n2_ := Aside0.mk (hb); have n3_ := Aside0.mk (ho); clear HO_6; clear HL101_0; clear HB; clear HO_3; have HO_6 := n0_; have HL101_0 := n1_; have HB := n2_; have HO104 := n3_; clear n0_ n1_ n2_ n3_; clear ho hb hg hat))
              go_roundg k1
              case measure => have := HK1.out; omega
              case rel => exact ⟨(y102), (wrap64 (x8_1 + 1)), (by first | rfl | (simp; done) | (simp [*]; done)), H', ⟨by have := HK1.out; omega⟩, ⟨by (with_reducible repeat (first | apply Kd.N_alloc | apply Kd.N_drewN | apply Kd.N_drew)); exact HO104.out⟩, ⟨by (with_reducible repeat (first | apply Kd.V_alloc | apply Kd.V_drewN | apply Kd.V_drew)); exact HO_6.out⟩, ⟨by repeat (first | (with_reducible first | exact HB.out | apply below_alloc | apply pw_below_drewN | apply below_drew1) | exact HB.out)⟩⟩
            · rw [if_neg c5] at H
              exact absurd H (by simp)
          · rw [if_neg c4] at H
            exact absurd H (by simp)
        · rw [if_neg c3] at H
          exact absurd H (by simp)
      · rw [if_neg c2] at H
        have c2b0 : decide (x8_1 < (l0.length : Int)) = false := decide_eq_false c2
        clear c2
        obtain rfl := Option.some.inj H
        go_wp2
        go_ret
        exact ⟨_, by first | rfl | (simp [errW_none, errW_some] <;> rfl) | (simp [*, errW_none, errW_some] <;> rfl), by (with_reducible repeat (first | apply Kd.N_alloc | apply Kd.N_drewN | apply Kd.N_drew)); exact HO_3.out, by repeat (first | (with_reducible first | exact HB.out | apply below_alloc | apply pw_below_drewN | apply below_drew1) | exact HB.out)⟩

/-! ### table_zzTexts: function 65 -/
def table_zzTexts.l0 : Nat → List (List ByteArray) → List (List ByteArray) → Int → Int → Option ((List (List ByteArray)))
  | 0, _, _, _, _ => none
  | k + 1, x3, x6, x7, x8 => if x8 < x7 then (if 0 ≤ x8 then (if x8 < (x6.length : Int) then (if x3.length < 5864062014805 then (table_zzTexts.l0 k (x3 ++ [rd_L1 x6 x8]) x6 x7 (wrap64 (x8 + 1))) else (none)) else (none)) else (none)) else (some x3)
def table_zzTexts.f (k : Nat) (l0 : List (List ByteArray)) : Option ((List (List ByteArray))) := table_zzTexts.l0 k ([] : List (List ByteArray)) l0 (l0.length : Int) 0
theorem table_zzTexts.mono_l : ∀ k, (∀ y0 y1 y2 y3, LeO (table_zzTexts.l0 k y0 y1 y2 y3) (table_zzTexts.l0 (k + 1) y0 y1 y2 y3))
  | 0 => fun _ _ _ _ r h => by simp [table_zzTexts.l0] at h
  | k + 1 => by
    have ih0 := table_zzTexts.mono_l k
    · intro y0 y1 y2 y3
      unfold table_zzTexts.l0
      repeat' first
      | (with_reducible exact ih0 _ _ _ _)
      | (with_reducible exact LeO.refl _)
      | (with_reducible exact LeO.none _)
      | (with_reducible refine LeO.ite ?_ ?_)
      | (with_reducible refine LeO.bind ?_ (fun _ => ?_))
      | exact ih0 _ _ _ _
      | exact LeO.none _
      | refine LeO.ite ?_ ?_
      | refine LeO.bind ?_ (fun _ => ?_)
theorem table_zzTexts.mono : ∀ a0 k, LeO (table_zzTexts.f k a0) (table_zzTexts.f (k + 1) a0) := by
  intro a0 k
  have ih0 := table_zzTexts.mono_l k
  unfold table_zzTexts.f
  repeat' first
      | (with_reducible exact ih0 _ _ _ _)
      | (with_reducible exact LeO.refl _)
      | (with_reducible exact LeO.none _)
      | (with_reducible refine LeO.ite ?_ ?_)
      | (with_reducible refine LeO.bind ?_ (fun _ => ?_))
      | exact ih0 _ _ _ _
      | exact LeO.none _
      | refine LeO.ite ?_ ?_
      | refine LeO.bind ?_ (fun _ => ?_)
set_option maxHeartbeats 8000000 in
set_option maxRecDepth 100000 in
theorem table_zzTexts.calls (k : Nat) (P0_ : Nat → Prop) (A0 : Option Addr) (c0 : Nat) (l0 : List (List ByteArray)) (r : List (List ByteArray)) (w : World) (hs0 : Kd.V (Kd.slice 9 Kd.string) 162 w w.heap.size (fun k_ => P0_ k_) (.slice A0 l0.length c0) l0) (h : table_zzTexts.f k l0 = some r) :
    Calls Try.prog 65 #[.slice A0 l0.length c0] w fun e w' => ∃ v0_ : Value, e = .returned (v0_) ∧ Kd.N (Kd.slice 9 Kd.string) 109 w' w.heap.size (fun k_ => (P0_ k_ ∨ w.heap.size ≤ k_)) v0_ r ∧ Below w.heap.size w w' := by
  have HO0 := Aside0.mk (show Kd.V (Kd.slice 9 Kd.string) 162 w w.heap.size (fun k_ => (P0_ k_ ∨ w.heap.size ≤ k_)) (.slice A0 l0.length c0) l0 from Kd.V_mono hs0 (fun k_ hk => .inl hk))
  have HB := Aside0.mk (Below.refl w.heap.size w)
  have H : (table_zzTexts.l0 k ([] : List (List ByteArray)) l0 (l0.length : Int) 0) = some r := h
  clear h
  have H' := Aside0.mk H
  clear H
  go_enter Try.func65, Try.ntmps65
  go_wp2
  go_loopg [3, 8] k (fun kq v3 v8 w' => ∃ (x3_1 : List (List ByteArray)) (x8_1 : Int), v8 = .int .i64 x8_1 ∧ Aside0 (table_zzTexts.l0 kq x3_1 l0 (l0.length : Int) x8_1 = some r) ∧ Aside0 (kq ≤ k) ∧ Aside0 (Kd.N (Kd.slice 9 Kd.string) 109 w' w.heap.size (fun k_ => (P0_ k_ ∨ w.heap.size ≤ k_)) v3 x3_1) ∧ Aside0 (Kd.V (Kd.slice 9 Kd.string) 162 w' w.heap.size (fun k_ => (P0_ k_ ∨ w.heap.size ≤ k_) ∧ some k_ ≠ (v3 : Value).ownBlock) (.slice A0 l0.length c0) l0) ∧ Aside0 (Below w.heap.size w w'))
  case atStart => exact ⟨(([] : List (List ByteArray))), (0), (by first | rfl | (simp; done) | (simp [*]; done)), H', ⟨Nat.le_refl _⟩, ⟨by first | exact Kd.S_nil _ _ _ _ _ | exact Kd.N_nil _ _ _ _ _ | exact Kd.V_nil _ _ _ _ _ | exact Kd.Q_nil _ _ _ _ _ | exact Kd.R_nil _ _ _ _ _⟩, ⟨by (with_reducible repeat (first | apply Kd.V_alloc | apply Kd.V_drewN | apply Kd.V_drew)); exact Kd.V_mono HO0.out (fun _ hk => ⟨hk, (by simp [Value.ownBlock])⟩)⟩, ⟨by repeat (first | (with_reducible first | exact HB.out | apply below_alloc | apply pw_below_drewN | apply below_drew1) | exact HB.out)⟩⟩
  case round =>
    clear H'
    obtain ⟨x3_1, x8_1, rfl, HA, HK1, HO_3, HO_6, HB⟩ := hrel
    cases gk with
    | zero => exact absurd HA.out (by simp [table_zzTexts.l0])
    | succ k1 =>
      have H := HA.out
      clear HA
      simp only [table_zzTexts.l0] at H
      by_cases c2 : x8_1 < (l0.length : Int)
      · rw [if_pos c2] at H
        have c2b0 : decide (x8_1 < (l0.length : Int)) = true := decide_eq_true c2
        clear c2
        by_cases c3 : 0 ≤ x8_1
        · rw [if_pos c3] at H
          have c3b0 : decide (0 ≤ x8_1) = true := decide_eq_true c3
          clear c3
          by_cases c4 : x8_1 < (l0.length : Int)
          · rw [if_pos c4] at H
            have c4b0 : decide (x8_1 < (l0.length : Int)) = true := decide_eq_true c4
            clear c4
            by_cases c5 : x3_1.length < 5864062014805
            · rw [if_pos c5] at H
              have LMc5 := Aside0.mk c5
              clear c5
              obtain ⟨y106, hy106⟩ : ∃ y_ : List (List ByteArray), y_ = (x3_1 ++ [rd_L1 l0 x8_1]) := ⟨_, rfl⟩
              replace H : (table_zzTexts.l0 k1 y106 l0 (l0.length : Int) (wrap64 (x8_1 + 1))) = some r := by first | (rw [hy106]; with_reducible exact H) | (have H2_ := (Option.bind_some _ _).symm.trans H; rw [hy106]; with_reducible exact H2_) | (have H2_ := (Option.bind_some _ _).symm.trans H; with_reducible exact H2_) | with_reducible exact H | (rw [hy106]; exact H) | exact H
              have Ny106 := Aside0.mk hy106
              clear hy106
              have H' := Aside0.mk H
              clear H
              have p105 : 0 ≤ (x8_1 : Int) := of_decide_eq_true (by first | (with_reducible assumption) | assumption)
              have q105 : x8_1 < (l0.length : Int) := of_decide_eq_true (by first | (with_reducible assumption) | assumption)
              obtain ⟨ad105, A105_0, c105_0, e105, hx105_0, hl105_0, hi105_0⟩ := at_L1 (Kd.V_reads' HO_6.out).2.2 x8_1 p105 q105
              cases e105
              obtain ⟨ce105, hce105, hMe105, hcc105⟩ := Kd.V_get HO_6.out [] x8_1 p105 (by first | exact q105 | exact of_decide_eq_true (by first | (with_reducible assumption) | assumption) | (have e_ := (Kd.V_reads' HO_6.out).1; omega))
              obtain ⟨ua105_0, uc105_0, rfl, ul105_0, ge105_0⟩ := Kd.FK_slice_open hMe105
              have hv105_0 := hcc105 0 _ rfl
              rw [Nat.add_zero, show ((Kd.slice 9 Kd.string)).sz = 1 from rfl, Nat.mul_one] at hv105_0
              replace hv105_0 := Option.some.inj (hv105_0.symm.trans hx105_0)
              injection hv105_0 with hva_ hvn_ hvc_
              rw [hva_] at ge105_0
              rw [hvc_] at ul105_0
              have HL105_0 := Aside0.mk (show Kd.V Kd.string 9 _ w.heap.size _ _ (rd_L1 l0 x8_1) from Kd.V_mk ul105_0 ge105_0)
              clear hva_ hvn_ hvc_ ge105_0 ul105_0
              clear hcc105 hce105
              have HR105_0 := Aside0.mk hi105_0
              have HC105_0 := Aside0.mk hl105_0
              clear hi105_0 hl105_0
              replace p105 := eq_true p105
              replace q105 := eq_true q105
              go_wp2_with (first | ((with_reducible refine gate_builtin (b := .append) (xs := #[.tmp 12, .tmp 14]) rfl ?_); at_builtin; refine Kd.N_append (Kd.slice 9 Kd.string) (w0 := w) w.heap.size rfl (.tmp 12) (.tmp 14) 43 109 (.slice none 0 0) 24 rfl Try.underlying43 info109 rfl (by decide) (by omega) u3 x3_1 (rd_L1 l0 x8_1) [.slice A105_0 (rd_L1 l0 x8_1).length c105_0] (fun k_ => (P0_ k_ ∨ w.heap.size ≤ k_)) (fun k_ => ((fun k_ => (P0_ k_ ∨ w.heap.size ≤ k_))) k_ ∧ some k_ ≠ (u3 : Value).ownBlock) rfl rfl ?aP (fun _ hk => hk) ?aF ?aO ?aB ?aS ?aL ?_; (case aP => exact (Kd.FK_slice_mk (Kd.V_reads' (Kd.V_mono (ok' := (fun k_ => ((fun k_ => (P0_ k_ ∨ w.heap.size ≤ k_))) k_ ∧ some k_ ≠ (u3 : Value).ownBlock)) (HL105_0.out) (fun k_ hk => ⟨hk.1, hk.2⟩))).2.1 (Kd.V_F (Kd.V_mono (ok' := (fun k_ => ((fun k_ => (P0_ k_ ∨ w.heap.size ≤ k_))) k_ ∧ some k_ ≠ (u3 : Value).ownBlock)) (HL105_0.out) (fun k_ hk => ⟨hk.1, hk.2⟩))))); (case aB => exact (by repeat (first | (with_reducible first | exact HB.out | apply below_alloc | apply pw_below_drewN | apply below_drew1) | exact HB.out))); (case aF => exact (fun k_ hk => (.inr (Nat.le_trans (below_size (by repeat (first | (with_reducible first | exact HB.out | apply below_alloc | apply pw_below_drewN | apply below_drew1) | exact HB.out))) hk)))); (case aO => exact (by (with_reducible repeat (first | apply Kd.N_alloc | apply Kd.N_drewN | apply Kd.N_drew)); exact HO_3.out)); (case aS => exact (below_size (by repeat (first | (with_reducible first | exact HB.out | apply below_alloc | apply pw_below_drewN | apply below_drew1) | exact HB.out)))); (case aL => have := LMc5.out; omega); intro v107 w6 ho hb hg hat; rw [← Ny106.out] at ho; have n0_ := Aside0.mk (Kd.V_afterv (ok := (fun k_ => (P0_ k_ ∨ w.heap.size ≤ k_))) (by (with_reducible repeat (first | apply Kd.V_alloc | apply Kd.V_drewN | apply Kd.V_drew)); exact HO_6.out) hg hat); have n1_ := Aside0.mk (Kd.V_afterv (ok := (fun k_ => (P0_ k_ ∨ w.heap.size ≤ k_))) (by (with_reducible repeat (first | apply Kd.V_alloc | apply Kd.V_drewN | apply Kd.V_drew)); exact HL105_0.out) hg hat); have n2_ := Aside0.mk (hb); have n3_ := Aside0.mk (ho); clear HO_6; clear HL105_0; clear HB; clear HO_3; have HO_6 := n0_; have HL105_0 := n1_; have HB := n2_; have HO108 := n3_; clear n0_ n1_ n2_ n3_; clear ho hb hg hat))
              go_roundg k1
              case measure => have := HK1.out; omega
              case rel => exact ⟨(y106), (wrap64 (x8_1 + 1)), (by first | rfl | (simp; done) | (simp [*]; done)), H', ⟨by have := HK1.out; omega⟩, ⟨by (with_reducible repeat (first | apply Kd.N_alloc | apply Kd.N_drewN | apply Kd.N_drew)); exact HO108.out⟩, ⟨by (with_reducible repeat (first | apply Kd.V_alloc | apply Kd.V_drewN | apply Kd.V_drew)); exact HO_6.out⟩, ⟨by repeat (first | (with_reducible first | exact HB.out | apply below_alloc | apply pw_below_drewN | apply below_drew1) | exact HB.out)⟩⟩
            · rw [if_neg c5] at H
              exact absurd H (by simp)
          · rw [if_neg c4] at H
            exact absurd H (by simp)
        · rw [if_neg c3] at H
          exact absurd H (by simp)
      · rw [if_neg c2] at H
        have c2b0 : decide (x8_1 < (l0.length : Int)) = false := decide_eq_false c2
        clear c2
        obtain rfl := Option.some.inj H
        go_wp2
        go_ret
        exact ⟨_, by first | rfl | (simp [errW_none, errW_some] <;> rfl) | (simp [*, errW_none, errW_some] <;> rfl), by (with_reducible repeat (first | apply Kd.N_alloc | apply Kd.N_drewN | apply Kd.N_drew)); exact HO_3.out, by repeat (first | (with_reducible first | exact HB.out | apply below_alloc | apply pw_below_drewN | apply below_drew1) | exact HB.out)⟩

end Go.Proofs.Ytapbnbinoakbhaa.GEZ
