-- printed by a program of this session (gprint.py) out of the translation; Lean checks it
import Derived.Test.YtkfkhafmgndgaaaRRGMx0
import Derived.Test.YtkfkhafmgndgaaaRRGivenMoves
namespace Go.Proofs.YtkfkhafmgndgaaaRR.GM
open Go.RowKit Go.Proofs.YtkfkhafmgndgaaaRRW.PrintWords Go.Proofs.YtkfkhafmgndgaaaRRW.PrintLast Go.Proofs.YtkfkhafmgndgaaaRR.GivenMoves Go.Proofs.YtkfkhafmgndgaaaRRW.PrintMore
attribute [local go_sem] max2_int min2_int max_two min_two max_three min_three max_four min_four   -- for this text's walks alone
set_option linter.unusedVariables false
set_option linter.unusedSimpArgs false

/-! ### spec_Moves: function 18 -/
def spec_Moves.l0 : Nat → List ByteArray → List (S50) → List (S52) → Int → Int → Option ((List (S52)))
  | 0, _, _, _, _, _ => none
  | k + 1, x0, x1, x5, x6, x7 => if x7 < (x1.length : Int) then (if 0 ≤ x7 then (if ((rd_T50 x1 x7).f0) = 0 then (if ((rd_T50 x1 x7).f0) = 4 then (if x5.length < 5864062014805 then (spec_Moves.l0 k x0 x1 (x5 ++ [(⟨(⟨#[]⟩ : ByteArray), wrap64 ((mn (wrap64 (x6 + 1)) (wrap64 ((x0.length : Int) - 1))) + 1)⟩ : S52)]) (mn (wrap64 (x6 + 1)) (wrap64 ((x0.length : Int) - 1))) (wrap64 (x7 + 1))) else (none)) else (if 0 ≤ (mn (wrap64 (x6 + 1)) (wrap64 ((x0.length : Int) - 1))) then (if (mn (wrap64 (x6 + 1)) (wrap64 ((x0.length : Int) - 1))) < (x0.length : Int) then (if x5.length < 5864062014805 then (spec_Moves.l0 k x0 x1 (x5 ++ [(⟨rdOf ByteArray.empty x0 (mn (wrap64 (x6 + 1)) (wrap64 ((x0.length : Int) - 1))), 0⟩ : S52)]) (mn (wrap64 (x6 + 1)) (wrap64 ((x0.length : Int) - 1))) (wrap64 (x7 + 1))) else (none)) else (none)) else (none))) else (if ((rd_T50 x1 x7).f0) = 1 then (if ((rd_T50 x1 x7).f0) = 4 then (if x5.length < 5864062014805 then (spec_Moves.l0 k x0 x1 (x5 ++ [(⟨(⟨#[]⟩ : ByteArray), wrap64 ((mx (wrap64 (x6 - 1)) 0) + 1)⟩ : S52)]) (mx (wrap64 (x6 - 1)) 0) (wrap64 (x7 + 1))) else (none)) else (if 0 ≤ (mx (wrap64 (x6 - 1)) 0) then (if (mx (wrap64 (x6 - 1)) 0) < (x0.length : Int) then (if x5.length < 5864062014805 then (spec_Moves.l0 k x0 x1 (x5 ++ [(⟨rdOf ByteArray.empty x0 (mx (wrap64 (x6 - 1)) 0), 0⟩ : S52)]) (mx (wrap64 (x6 - 1)) 0) (wrap64 (x7 + 1))) else (none)) else (none)) else (none))) else (if ((rd_T50 x1 x7).f0) = 2 then (if ((rd_T50 x1 x7).f1) < 1 then (if ((rd_T50 x1 x7).f0) = 4 then (if x5.length < 5864062014805 then (spec_Moves.l0 k x0 x1 (x5 ++ [(⟨(⟨#[]⟩ : ByteArray), 1⟩ : S52)]) 0 (wrap64 (x7 + 1))) else (none)) else (if 0 < (x0.length : Int) then (if x5.length < 5864062014805 then (spec_Moves.l0 k x0 x1 (x5 ++ [(⟨rdOf ByteArray.empty x0 0, 0⟩ : S52)]) 0 (wrap64 (x7 + 1))) else (none)) else (none))) else (if ((rd_T50 x1 x7).f0) = 4 then (if x5.length < 5864062014805 then (spec_Moves.l0 k x0 x1 (x5 ++ [(⟨(⟨#[]⟩ : ByteArray), wrap64 ((mx 0 (mn (wrap64 (((rd_T50 x1 x7).f1) - 1)) (wrap64 ((x0.length : Int) - 1)))) + 1)⟩ : S52)]) (mx 0 (mn (wrap64 (((rd_T50 x1 x7).f1) - 1)) (wrap64 ((x0.length : Int) - 1)))) (wrap64 (x7 + 1))) else (none)) else (if 0 ≤ (mx 0 (mn (wrap64 (((rd_T50 x1 x7).f1) - 1)) (wrap64 ((x0.length : Int) - 1)))) then (if (mx 0 (mn (wrap64 (((rd_T50 x1 x7).f1) - 1)) (wrap64 ((x0.length : Int) - 1)))) < (x0.length : Int) then (if x5.length < 5864062014805 then (spec_Moves.l0 k x0 x1 (x5 ++ [(⟨rdOf ByteArray.empty x0 (mx 0 (mn (wrap64 (((rd_T50 x1 x7).f1) - 1)) (wrap64 ((x0.length : Int) - 1)))), 0⟩ : S52)]) (mx 0 (mn (wrap64 (((rd_T50 x1 x7).f1) - 1)) (wrap64 ((x0.length : Int) - 1)))) (wrap64 (x7 + 1))) else (none)) else (none)) else (none)))) else (if ((rd_T50 x1 x7).f0) = 4 then (if x5.length < 5864062014805 then (spec_Moves.l0 k x0 x1 (x5 ++ [(⟨(⟨#[]⟩ : ByteArray), wrap64 (x6 + 1)⟩ : S52)]) x6 (wrap64 (x7 + 1))) else (none)) else (if 0 ≤ x6 then (if x6 < (x0.length : Int) then (if x5.length < 5864062014805 then (spec_Moves.l0 k x0 x1 (x5 ++ [(⟨rdOf ByteArray.empty x0 x6, 0⟩ : S52)]) x6 (wrap64 (x7 + 1))) else (none)) else (none)) else (none)))))) else (none)) else (some x5)
def spec_Moves.f (k : Nat) (l0 : List ByteArray) (l1 : List (S50)) : Option ((List (S52))) := spec_Moves.l0 k l0 l1 ([] : List (S52)) 0 0
theorem spec_Moves.mono_l : ∀ k, (∀ y0 y1 y2 y3 y4, LeO (spec_Moves.l0 k y0 y1 y2 y3 y4) (spec_Moves.l0 (k + 1) y0 y1 y2 y3 y4))
  | 0 => fun _ _ _ _ _ r h => by simp [spec_Moves.l0] at h
  | k + 1 => by
    have ih0 := spec_Moves.mono_l k
    · intro y0 y1 y2 y3 y4
      unfold spec_Moves.l0
      repeat' first
      | (with_reducible exact ih0 _ _ _ _ _)
      | (with_reducible exact LeO.refl _)
      | (with_reducible exact LeO.none _)
      | (with_reducible refine LeO.ite ?_ ?_)
      | (with_reducible refine LeO.bind ?_ (fun _ => ?_))
      | exact ih0 _ _ _ _ _
      | exact LeO.none _
      | refine LeO.ite ?_ ?_
      | refine LeO.bind ?_ (fun _ => ?_)
theorem spec_Moves.mono : ∀ a0 a1 k, LeO (spec_Moves.f k a0 a1) (spec_Moves.f (k + 1) a0 a1) := by
  intro a0 a1 k
  have ih0 := spec_Moves.mono_l k
  unfold spec_Moves.f
  repeat' first
      | (with_reducible exact ih0 _ _ _ _ _)
      | (with_reducible exact LeO.refl _)
      | (with_reducible exact LeO.none _)
      | (with_reducible refine LeO.ite ?_ ?_)
      | (with_reducible refine LeO.bind ?_ (fun _ => ?_))
      | exact ih0 _ _ _ _ _
      | exact LeO.none _
      | refine LeO.ite ?_ ?_
      | refine LeO.bind ?_ (fun _ => ?_)
set_option maxHeartbeats 8000000 in
set_option maxRecDepth 100000 in
theorem spec_Moves.calls (k : Nat) (A0 : Option Addr) (c0 : Nat) (l0 : List ByteArray) (A1 : Option Addr) (c1 : Nat) (l1 : List (S50)) (r : List (S52)) (w : World) (hr0 : Kd.C Kd.string w A0 l0.length l0) (hc0 : l0.length ≤ c0) (hr1 : Kd.C k50 w A1 l1.length l1) (hc1 : l1.length ≤ c1) (h : spec_Moves.f k l0 l1 = some r) :
    Calls Try.prog 18 #[.slice A0 l0.length c0, .slice A1 l1.length c1] w fun e w' => ∃ v0_ : Value, e = .returned (v0_) ∧ Kd.R k52 52 w' w.heap.size (fun _ => True) v0_ r ∧ Below w.heap.size w w' := by
  have hu52 := Try.underlying52
  have HR0 := Aside0.mk hr0
  have HC0 := Aside0.mk hc0
  clear hr0 hc0
  have HR1 := Aside0.mk hr1
  have HC1 := Aside0.mk hc1
  clear hr1 hc1
  have HB := Aside0.mk (Below.refl w.heap.size w)
  have H : (spec_Moves.l0 k l0 l1 ([] : List (S52)) 0 0) = some r := h
  clear h
  have H' := Aside0.mk H
  clear H
  go_enter Try.func18, Try.ntmps18
  go_wp2
  go_loopg [5, 6, 7] k (fun kq v5 v6 v7 w' => ∃ (x5_1 : List (S52)) (x6_1 : Int) (x7_1 : Int), v6 = .int .i64 x6_1 ∧ v7 = .int .i64 x7_1 ∧ Aside0 (spec_Moves.l0 kq l0 l1 x5_1 x6_1 x7_1 = some r) ∧ Aside0 (kq ≤ k) ∧ Aside0 (Kd.R k52 52 w' w.heap.size (fun _ => True) v5 x5_1) ∧ Aside0 (Below w.heap.size w w'))
  case atStart => exact ⟨(([] : List (S52))), (0), (0), (by first | rfl | (simp; done) | (simp [*]; done)), (by first | rfl | (simp; done) | (simp [*]; done)), H', ⟨Nat.le_refl _⟩, ⟨by first | exact Kd.R_nil _ _ _ _ _ | exact Kd.N_nil _ _ _ _ _ | exact Kd.V_nil _ _ _ _ _ | exact Kd.Q_nil _ _ _ _ _ | exact Kd.S_nil _ _ _ _ _⟩, ⟨by repeat (first | (with_reducible first | exact HB.out | apply below_alloc | apply pw_below_drewN | apply below_drew1) | exact HB.out)⟩⟩
  case round =>
    clear H'
    try clear c1
    try clear p2
    obtain ⟨x5_1, x6_1, x7_1, rfl, rfl, HA, HK1, HO_5, HB⟩ := hrel
    cases gk with
    | zero => exact absurd HA.out (by simp [spec_Moves.l0])
    | succ k1 =>
      have H := HA.out
      clear HA
      simp only [spec_Moves.l0] at H
      by_cases c3 : x7_1 < (l1.length : Int)
      · rw [if_pos c3] at H
        have c3b0 : decide (x7_1 < (l1.length : Int)) = true := decide_eq_true c3
        clear c3
        by_cases c4 : 0 ≤ x7_1
        · rw [if_pos c4] at H
          have c4b0 : decide (0 ≤ x7_1) = true := decide_eq_true c4
          clear c4
          by_cases c5 : ((rd_T50 l1 x7_1).f0) = 0
          · rw [if_pos c5] at H
            have c5b0 : (((rd_T50 l1 x7_1).f0) == 0) = true := beq_iff_eq.mpr c5
            have c5b1 : (((rd_T50 l1 x7_1).f0) != 0) = false := bne_eq_false_iff_eq.mpr c5
            clear c5
            obtain ⟨ji6, hji6⟩ : ∃ j_ : Int, (mn (wrap64 (x6_1 + 1)) (wrap64 ((l0.length : Int) - 1))) = j_ := ⟨_, rfl⟩
            replace H : (if ((rd_T50 l1 x7_1).f0) = 4 then (if x5_1.length < 5864062014805 then (spec_Moves.l0 k1 l0 l1 (x5_1 ++ [(⟨(⟨#[]⟩ : ByteArray), wrap64 ((ji6) + 1)⟩ : S52)]) ji6 (wrap64 (x7_1 + 1))) else (none)) else (if 0 ≤ (ji6) then (if (ji6) < (l0.length : Int) then (if x5_1.length < 5864062014805 then (spec_Moves.l0 k1 l0 l1 (x5_1 ++ [(⟨rdOf ByteArray.empty l0 (ji6), 0⟩ : S52)]) ji6 (wrap64 (x7_1 + 1))) else (none)) else (none)) else (none))) = some r := by first | (rw [hji6] at H; exact H) | (simp only [hji6] at H ⊢; exact H)
            have hji6_ : (if (wrap64 ((l0.length : Int) - 1)) < (wrap64 (x6_1 + 1)) then (wrap64 ((l0.length : Int) - 1)) else (wrap64 (x6_1 + 1))) = ji6 := hji6
            by_cases c7 : ((rd_T50 l1 x7_1).f0) = 4
            · rw [if_pos c7] at H
              have c7b0 : (((rd_T50 l1 x7_1).f0) == 4) = true := beq_iff_eq.mpr c7
              have c7b1 : (((rd_T50 l1 x7_1).f0) != 4) = false := bne_eq_false_iff_eq.mpr c7
              clear c7
              by_cases c8 : x5_1.length < 5864062014805
              · rw [if_pos c8] at H
                have LMc8 := Aside0.mk c8
                clear c8
                obtain ⟨y109, hy109⟩ : ∃ y_ : List (S52), y_ = (x5_1 ++ [(⟨(⟨#[]⟩ : ByteArray), wrap64 ((ji6) + 1)⟩ : S52)]) := ⟨_, rfl⟩
                replace H : (spec_Moves.l0 k1 l0 l1 y109 ji6 (wrap64 (x7_1 + 1))) = some r := by first | (rw [hy109]; with_reducible exact H) | (have H2_ := (Option.bind_some _ _).symm.trans H; rw [hy109]; with_reducible exact H2_) | (have H2_ := (Option.bind_some _ _).symm.trans H; with_reducible exact H2_) | with_reducible exact H | (rw [hy109]; exact H) | exact H
                have Ny109 := Aside0.mk hy109
                clear hy109
                have H' := Aside0.mk H
                clear H
                have p107 : 0 ≤ (x7_1 : Int) := of_decide_eq_true (by first | (with_reducible assumption) | assumption)
                have q107 : x7_1 < (l1.length : Int) := of_decide_eq_true (by first | (with_reducible assumption) | assumption)
                obtain ⟨ad107, e107, hx107_0, hx107_1⟩ := at_T50 HR1.out x7_1 p107 q107
                cases e107
                replace hx107_0 := (HB.out.cell (World.block_lt_of_cell? w _ hx107_0)).trans hx107_0
                replace hx107_1 := (HB.out.cell (World.block_lt_of_cell? w _ hx107_1)).trans hx107_1
                replace p107 := eq_true p107
                replace q107 := eq_true q107
                have p108 : 0 ≤ (x7_1 : Int) := of_decide_eq_true (by first | (with_reducible assumption) | assumption)
                have q108 : x7_1 < (l1.length : Int) := of_decide_eq_true (by first | (with_reducible assumption) | assumption)
                obtain ⟨ad108, e108, hx108_0, hx108_1⟩ := at_T50 HR1.out x7_1 p108 q108
                obtain rfl : ad107 = ad108 := (by injection e108)
                replace hx108_0 := (HB.out.cell (World.block_lt_of_cell? w _ hx108_0)).trans hx108_0
                replace hx108_1 := (HB.out.cell (World.block_lt_of_cell? w _ hx108_1)).trans hx108_1
                replace p108 := eq_true p108
                replace q108 := eq_true q108
                go_wp2_with (first | ((with_reducible refine gate_builtin (b := .append) (xs := #[.tmp 57, .tmp 61]) rfl ?_); at_builtin; refine Kd.R_append k52 (w0 := w) w.heap.size rfl (.tmp 57) (.tmp 61) 46 52 (.agg #[(.string ⟨#[]⟩), (.int .i64 0)]) 24 rfl Try.underlying46 info52 rfl (by decide) (by omega) u5 x5_1 (⟨(⟨#[]⟩ : ByteArray), wrap64 ((ji6) + 1)⟩ : S52) [.string (⟨#[]⟩ : ByteArray), .int .i64 (wrap64 ((ji6) + 1))] (fun _ => True) (fun _ => False) rfl rfl ?aP (fun _ hk => hk.elim) ?aF ?aO ?aB ?aS ?aL ?_; (case aP => exact k52_mkM _ _ _ (⟨(⟨#[]⟩ : ByteArray), wrap64 ((ji6) + 1)⟩ : S52)); (case aB => exact (by repeat (first | (with_reducible first | exact HB.out | apply below_alloc | apply pw_below_drewN | apply below_drew1) | exact HB.out))); (case aF => exact (fun _ _ => trivial)); (case aO => exact (by (with_reducible repeat (first | apply Kd.R_alloc | apply Kd.R_drewN | apply Kd.R_drew)); exact HO_5.out)); (case aS => exact (below_size (by repeat (first | (with_reducible first | exact HB.out | apply below_alloc | apply pw_below_drewN | apply below_drew1) | exact HB.out)))); (case aL => have := LMc8.out; omega); intro v110 w9 ho hb hg hat; rw [← Ny109.out] at ho; have n0_ := Aside0.mk (hb); have n1_ := Aside0.mk (ho); clear HB; clear HO_5; have HB := n0_; have HO111 := n1_; clear n0_ n1_; clear ho hb hg hat))
                go_roundg k1
                case measure => have := HK1.out; omega
                case rel => exact ⟨(y109), (ji6), (wrap64 (x7_1 + 1)), (by first | rfl | (simp; done) | (simp only [← hji6] <;> (first | rfl | simp)) | (simp [*]; done)), (by first | rfl | (simp; done) | (simp [*]; done)), H', ⟨by have := HK1.out; omega⟩, ⟨by (with_reducible repeat (first | apply Kd.R_alloc | apply Kd.R_drewN | apply Kd.R_drew)); exact HO111.out⟩, ⟨by repeat (first | (with_reducible first | exact HB.out | apply below_alloc | apply pw_below_drewN | apply below_drew1) | exact HB.out)⟩⟩
              · rw [if_neg c8] at H
                exact absurd H (by simp)
            · rw [if_neg c7] at H
              have c7b0 : (((rd_T50 l1 x7_1).f0) == 4) = false := beq_eq_false_iff_ne.mpr c7
              have c7b1 : (((rd_T50 l1 x7_1).f0) != 4) = true := bne_iff_ne.mpr c7
              by_cases c10 : 0 ≤ (ji6)
              · rw [if_pos c10] at H
                have c10b0 : decide (0 ≤ (ji6)) = true := decide_eq_true c10
                clear c10
                by_cases c11 : (ji6) < (l0.length : Int)
                · rw [if_pos c11] at H
                  have c11b0 : decide ((ji6) < (l0.length : Int)) = true := decide_eq_true c11
                  clear c11
                  by_cases c12 : x5_1.length < 5864062014805
                  · rw [if_pos c12] at H
                    have LMc12 := Aside0.mk c12
                    clear c12
                    obtain ⟨y113, hy113⟩ : ∃ y_ : List (S52), y_ = (x5_1 ++ [(⟨rdOf ByteArray.empty l0 (ji6), 0⟩ : S52)]) := ⟨_, rfl⟩
                    replace H : (spec_Moves.l0 k1 l0 l1 y113 ji6 (wrap64 (x7_1 + 1))) = some r := by first | (rw [hy113]; with_reducible exact H) | (have H2_ := (Option.bind_some _ _).symm.trans H; rw [hy113]; with_reducible exact H2_) | (have H2_ := (Option.bind_some _ _).symm.trans H; with_reducible exact H2_) | with_reducible exact H | (rw [hy113]; exact H) | exact H
                    have Ny113 := Aside0.mk hy113
                    clear hy113
                    have H' := Aside0.mk H
                    clear H
                    have p107 : 0 ≤ (x7_1 : Int) := of_decide_eq_true (by first | (with_reducible assumption) | assumption)
                    have q107 : x7_1 < (l1.length : Int) := of_decide_eq_true (by first | (with_reducible assumption) | assumption)
                    obtain ⟨ad107, e107, hx107_0, hx107_1⟩ := at_T50 HR1.out x7_1 p107 q107
                    cases e107
                    replace hx107_0 := (HB.out.cell (World.block_lt_of_cell? w _ hx107_0)).trans hx107_0
                    replace hx107_1 := (HB.out.cell (World.block_lt_of_cell? w _ hx107_1)).trans hx107_1
                    replace p107 := eq_true p107
                    replace q107 := eq_true q107
                    have p108 : 0 ≤ (x7_1 : Int) := of_decide_eq_true (by first | (with_reducible assumption) | assumption)
                    have q108 : x7_1 < (l1.length : Int) := of_decide_eq_true (by first | (with_reducible assumption) | assumption)
                    obtain ⟨ad108, e108, hx108_0, hx108_1⟩ := at_T50 HR1.out x7_1 p108 q108
                    obtain rfl : ad107 = ad108 := (by injection e108)
                    replace hx108_0 := (HB.out.cell (World.block_lt_of_cell? w _ hx108_0)).trans hx108_0
                    replace hx108_1 := (HB.out.cell (World.block_lt_of_cell? w _ hx108_1)).trans hx108_1
                    replace p108 := eq_true p108
                    replace q108 := eq_true q108
                    have p112 : 0 ≤ ((ji6) : Int) := of_decide_eq_true (by first | (with_reducible assumption) | assumption)
                    have q112 : (ji6) < (l0.length : Int) := of_decide_eq_true (by first | (with_reducible assumption) | assumption)
                    obtain ⟨ad112, e112, hx112_0⟩ := Kd.at_string HR0.out (ji6) p112 q112
                    cases e112
                    replace hx112_0 := (HB.out.cell (World.block_lt_of_cell? w _ hx112_0)).trans hx112_0
                    replace p112 := eq_true p112
                    replace q112 := eq_true q112
                    go_wp2_with (first | ((with_reducible refine gate_builtin (b := .append) (xs := #[.tmp 63, .tmp 69]) rfl ?_); at_builtin; refine Kd.R_append k52 (w0 := w) w.heap.size rfl (.tmp 63) (.tmp 69) 46 52 (.agg #[(.string ⟨#[]⟩), (.int .i64 0)]) 24 rfl Try.underlying46 info52 rfl (by decide) (by omega) u5 x5_1 (⟨rdOf ByteArray.empty l0 (ji6), 0⟩ : S52) [.string (rdOf ByteArray.empty l0 (ji6)), .int .i64 0] (fun _ => True) (fun _ => False) rfl rfl ?aP (fun _ hk => hk.elim) ?aF ?aO ?aB ?aS ?aL ?_; (case aP => exact k52_mkM _ _ _ (⟨rdOf ByteArray.empty l0 (ji6), 0⟩ : S52)); (case aB => exact (by repeat (first | (with_reducible first | exact HB.out | apply below_alloc | apply pw_below_drewN | apply below_drew1) | exact HB.out))); (case aF => exact (fun _ _ => trivial)); (case aO => exact (by (with_reducible repeat (first | apply Kd.R_alloc | apply Kd.R_drewN | apply Kd.R_drew)); exact HO_5.out)); (case aS => exact (below_size (by repeat (first | (with_reducible first | exact HB.out | apply below_alloc | apply pw_below_drewN | apply below_drew1) | exact HB.out)))); (case aL => have := LMc12.out; omega); intro v114 w13 ho hb hg hat; rw [← Ny113.out] at ho; have n0_ := Aside0.mk (hb); have n1_ := Aside0.mk (ho); clear HB; clear HO_5; have HB := n0_; have HO115 := n1_; clear n0_ n1_; clear ho hb hg hat))
                    go_roundg k1
                    case measure => have := HK1.out; omega
                    case rel => exact ⟨(y113), (ji6), (wrap64 (x7_1 + 1)), (by first | rfl | (simp; done) | (simp only [← hji6] <;> (first | rfl | simp)) | (simp [*]; done)), (by first | rfl | (simp; done) | (simp [*]; done)), H', ⟨by have := HK1.out; omega⟩, ⟨by (with_reducible repeat (first | apply Kd.R_alloc | apply Kd.R_drewN | apply Kd.R_drew)); exact HO115.out⟩, ⟨by repeat (first | (with_reducible first | exact HB.out | apply below_alloc | apply pw_below_drewN | apply below_drew1) | exact HB.out)⟩⟩
                  · rw [if_neg c12] at H
                    exact absurd H (by simp)
                · rw [if_neg c11] at H
                  exact absurd H (by simp)
              · rw [if_neg c10] at H
                exact absurd H (by simp)
          · rw [if_neg c5] at H
            have c5b0 : (((rd_T50 l1 x7_1).f0) == 0) = false := beq_eq_false_iff_ne.mpr c5
            have c5b1 : (((rd_T50 l1 x7_1).f0) != 0) = true := bne_iff_ne.mpr c5
            by_cases c14 : ((rd_T50 l1 x7_1).f0) = 1
            · rw [if_pos c14] at H
              have c14b0 : (((rd_T50 l1 x7_1).f0) == 1) = true := beq_iff_eq.mpr c14
              have c14b1 : (((rd_T50 l1 x7_1).f0) != 1) = false := bne_eq_false_iff_eq.mpr c14
              clear c14
              obtain ⟨ji15, hji15⟩ : ∃ j_ : Int, (mx (wrap64 (x6_1 - 1)) 0) = j_ := ⟨_, rfl⟩
              replace H : (if ((rd_T50 l1 x7_1).f0) = 4 then (if x5_1.length < 5864062014805 then (spec_Moves.l0 k1 l0 l1 (x5_1 ++ [(⟨(⟨#[]⟩ : ByteArray), wrap64 ((ji15) + 1)⟩ : S52)]) ji15 (wrap64 (x7_1 + 1))) else (none)) else (if 0 ≤ (ji15) then (if (ji15) < (l0.length : Int) then (if x5_1.length < 5864062014805 then (spec_Moves.l0 k1 l0 l1 (x5_1 ++ [(⟨rdOf ByteArray.empty l0 (ji15), 0⟩ : S52)]) ji15 (wrap64 (x7_1 + 1))) else (none)) else (none)) else (none))) = some r := by first | (rw [hji15] at H; exact H) | (simp only [hji15] at H ⊢; exact H)
              have hji15_ : (if (wrap64 (x6_1 - 1)) < 0 then 0 else (wrap64 (x6_1 - 1))) = ji15 := hji15
              by_cases c16 : ((rd_T50 l1 x7_1).f0) = 4
              · rw [if_pos c16] at H
                have c16b0 : (((rd_T50 l1 x7_1).f0) == 4) = true := beq_iff_eq.mpr c16
                have c16b1 : (((rd_T50 l1 x7_1).f0) != 4) = false := bne_eq_false_iff_eq.mpr c16
                clear c16
                by_cases c17 : x5_1.length < 5864062014805
                · rw [if_pos c17] at H
                  have LMc17 := Aside0.mk c17
                  clear c17
                  obtain ⟨y117, hy117⟩ : ∃ y_ : List (S52), y_ = (x5_1 ++ [(⟨(⟨#[]⟩ : ByteArray), wrap64 ((ji15) + 1)⟩ : S52)]) := ⟨_, rfl⟩
                  replace H : (spec_Moves.l0 k1 l0 l1 y117 ji15 (wrap64 (x7_1 + 1))) = some r := by first | (rw [hy117]; with_reducible exact H) | (have H2_ := (Option.bind_some _ _).symm.trans H; rw [hy117]; with_reducible exact H2_) | (have H2_ := (Option.bind_some _ _).symm.trans H; with_reducible exact H2_) | with_reducible exact H | (rw [hy117]; exact H) | exact H
                  have Ny117 := Aside0.mk hy117
                  clear hy117
                  have H' := Aside0.mk H
                  clear H
                  have p107 : 0 ≤ (x7_1 : Int) := of_decide_eq_true (by first | (with_reducible assumption) | assumption)
                  have q107 : x7_1 < (l1.length : Int) := of_decide_eq_true (by first | (with_reducible assumption) | assumption)
                  obtain ⟨ad107, e107, hx107_0, hx107_1⟩ := at_T50 HR1.out x7_1 p107 q107
                  cases e107
                  replace hx107_0 := (HB.out.cell (World.block_lt_of_cell? w _ hx107_0)).trans hx107_0
                  replace hx107_1 := (HB.out.cell (World.block_lt_of_cell? w _ hx107_1)).trans hx107_1
                  replace p107 := eq_true p107
                  replace q107 := eq_true q107
                  have p116 : 0 ≤ (x7_1 : Int) := of_decide_eq_true (by first | (with_reducible assumption) | assumption)
                  have q116 : x7_1 < (l1.length : Int) := of_decide_eq_true (by first | (with_reducible assumption) | assumption)
                  obtain ⟨ad116, e116, hx116_0, hx116_1⟩ := at_T50 HR1.out x7_1 p116 q116
                  obtain rfl : ad107 = ad116 := (by injection e116)
                  replace hx116_0 := (HB.out.cell (World.block_lt_of_cell? w _ hx116_0)).trans hx116_0
                  replace hx116_1 := (HB.out.cell (World.block_lt_of_cell? w _ hx116_1)).trans hx116_1
                  replace p116 := eq_true p116
                  replace q116 := eq_true q116
                  go_wp2_with (first | ((with_reducible refine gate_builtin (b := .append) (xs := #[.tmp 57, .tmp 61]) rfl ?_); at_builtin; refine Kd.R_append k52 (w0 := w) w.heap.size rfl (.tmp 57) (.tmp 61) 46 52 (.agg #[(.string ⟨#[]⟩), (.int .i64 0)]) 24 rfl Try.underlying46 info52 rfl (by decide) (by omega) u5 x5_1 (⟨(⟨#[]⟩ : ByteArray), wrap64 ((ji15) + 1)⟩ : S52) [.string (⟨#[]⟩ : ByteArray), .int .i64 (wrap64 ((ji15) + 1))] (fun _ => True) (fun _ => False) rfl rfl ?aP (fun _ hk => hk.elim) ?aF ?aO ?aB ?aS ?aL ?_; (case aP => exact k52_mkM _ _ _ (⟨(⟨#[]⟩ : ByteArray), wrap64 ((ji15) + 1)⟩ : S52)); (case aB => exact (by repeat (first | (with_reducible first | exact HB.out | apply below_alloc | apply pw_below_drewN | apply below_drew1) | exact HB.out))); (case aF => exact (fun _ _ => trivial)); (case aO => exact (by (with_reducible repeat (first | apply Kd.R_alloc | apply Kd.R_drewN | apply Kd.R_drew)); exact HO_5.out)); (case aS => exact (below_size (by repeat (first | (with_reducible first | exact HB.out | apply below_alloc | apply pw_below_drewN | apply below_drew1) | exact HB.out)))); (case aL => have := LMc17.out; omega); intro v118 w18 ho hb hg hat; rw [← Ny117.out] at ho; have n0_ := Aside0.mk (hb); have n1_ := Aside0.mk (ho); clear HB; clear HO_5; have HB := n0_; have HO119 := n1_; clear n0_ n1_; clear ho hb hg hat))
                  go_roundg k1
                  case measure => have := HK1.out; omega
                  case rel => exact ⟨(y117), (ji15), (wrap64 (x7_1 + 1)), (by first | rfl | (simp; done) | (simp only [← hji15] <;> (first | rfl | simp)) | (simp [*]; done)), (by first | rfl | (simp; done) | (simp [*]; done)), H', ⟨by have := HK1.out; omega⟩, ⟨by (with_reducible repeat (first | apply Kd.R_alloc | apply Kd.R_drewN | apply Kd.R_drew)); exact HO119.out⟩, ⟨by repeat (first | (with_reducible first | exact HB.out | apply below_alloc | apply pw_below_drewN | apply below_drew1) | exact HB.out)⟩⟩
                · rw [if_neg c17] at H
                  exact absurd H (by simp)
              · rw [if_neg c16] at H
                have c16b0 : (((rd_T50 l1 x7_1).f0) == 4) = false := beq_eq_false_iff_ne.mpr c16
                have c16b1 : (((rd_T50 l1 x7_1).f0) != 4) = true := bne_iff_ne.mpr c16
                by_cases c19 : 0 ≤ (ji15)
                · rw [if_pos c19] at H
                  have c19b0 : decide (0 ≤ (ji15)) = true := decide_eq_true c19
                  clear c19
                  by_cases c20 : (ji15) < (l0.length : Int)
                  · rw [if_pos c20] at H
                    have c20b0 : decide ((ji15) < (l0.length : Int)) = true := decide_eq_true c20
                    clear c20
                    by_cases c21 : x5_1.length < 5864062014805
                    · rw [if_pos c21] at H
                      have LMc21 := Aside0.mk c21
                      clear c21
                      obtain ⟨y121, hy121⟩ : ∃ y_ : List (S52), y_ = (x5_1 ++ [(⟨rdOf ByteArray.empty l0 (ji15), 0⟩ : S52)]) := ⟨_, rfl⟩
                      replace H : (spec_Moves.l0 k1 l0 l1 y121 ji15 (wrap64 (x7_1 + 1))) = some r := by first | (rw [hy121]; with_reducible exact H) | (have H2_ := (Option.bind_some _ _).symm.trans H; rw [hy121]; with_reducible exact H2_) | (have H2_ := (Option.bind_some _ _).symm.trans H; with_reducible exact H2_) | with_reducible exact H | (rw [hy121]; exact H) | exact H
                      have Ny121 := Aside0.mk hy121
                      clear hy121
                      have H' := Aside0.mk H
                      clear H
                      have p107 : 0 ≤ (x7_1 : Int) := of_decide_eq_true (by first | (with_reducible assumption) | assumption)
                      have q107 : x7_1 < (l1.length : Int) := of_decide_eq_true (by first | (with_reducible assumption) | assumption)
                      obtain ⟨ad107, e107, hx107_0, hx107_1⟩ := at_T50 HR1.out x7_1 p107 q107
                      cases e107
                      replace hx107_0 := (HB.out.cell (World.block_lt_of_cell? w _ hx107_0)).trans hx107_0
                      replace hx107_1 := (HB.out.cell (World.block_lt_of_cell? w _ hx107_1)).trans hx107_1
                      replace p107 := eq_true p107
                      replace q107 := eq_true q107
                      have p116 : 0 ≤ (x7_1 : Int) := of_decide_eq_true (by first | (with_reducible assumption) | assumption)
                      have q116 : x7_1 < (l1.length : Int) := of_decide_eq_true (by first | (with_reducible assumption) | assumption)
                      obtain ⟨ad116, e116, hx116_0, hx116_1⟩ := at_T50 HR1.out x7_1 p116 q116
                      obtain rfl : ad107 = ad116 := (by injection e116)
                      replace hx116_0 := (HB.out.cell (World.block_lt_of_cell? w _ hx116_0)).trans hx116_0
                      replace hx116_1 := (HB.out.cell (World.block_lt_of_cell? w _ hx116_1)).trans hx116_1
                      replace p116 := eq_true p116
                      replace q116 := eq_true q116
                      have p120 : 0 ≤ ((ji15) : Int) := of_decide_eq_true (by first | (with_reducible assumption) | assumption)
                      have q120 : (ji15) < (l0.length : Int) := of_decide_eq_true (by first | (with_reducible assumption) | assumption)
                      obtain ⟨ad120, e120, hx120_0⟩ := Kd.at_string HR0.out (ji15) p120 q120
                      cases e120
                      replace hx120_0 := (HB.out.cell (World.block_lt_of_cell? w _ hx120_0)).trans hx120_0
                      replace p120 := eq_true p120
                      replace q120 := eq_true q120
                      go_wp2_with (first | ((with_reducible refine gate_builtin (b := .append) (xs := #[.tmp 63, .tmp 69]) rfl ?_); at_builtin; refine Kd.R_append k52 (w0 := w) w.heap.size rfl (.tmp 63) (.tmp 69) 46 52 (.agg #[(.string ⟨#[]⟩), (.int .i64 0)]) 24 rfl Try.underlying46 info52 rfl (by decide) (by omega) u5 x5_1 (⟨rdOf ByteArray.empty l0 (ji15), 0⟩ : S52) [.string (rdOf ByteArray.empty l0 (ji15)), .int .i64 0] (fun _ => True) (fun _ => False) rfl rfl ?aP (fun _ hk => hk.elim) ?aF ?aO ?aB ?aS ?aL ?_; (case aP => exact k52_mkM _ _ _ (⟨rdOf ByteArray.empty l0 (ji15), 0⟩ : S52)); (case aB => exact (by repeat (first | (with_reducible first | exact HB.out | apply below_alloc | apply pw_below_drewN | apply below_drew1) | exact HB.out))); (case aF => exact (fun _ _ => trivial)); (case aO => exact (by (with_reducible repeat (first | apply Kd.R_alloc | apply Kd.R_drewN | apply Kd.R_drew)); exact HO_5.out)); (case aS => exact (below_size (by repeat (first | (with_reducible first | exact HB.out | apply below_alloc | apply pw_below_drewN | apply below_drew1) | exact HB.out)))); (case aL => have := LMc21.out; omega); intro v122 w22 ho hb hg hat; rw [← Ny121.out] at ho; have n0_ := Aside0.mk (hb); have n1_ := Aside0.mk (ho); clear HB; clear HO_5; have HB := n0_; have HO123 := n1_; clear n0_ n1_; clear ho hb hg hat))
                      go_roundg k1
                      case measure => have := HK1.out; omega
                      case rel => exact ⟨(y121), (ji15), (wrap64 (x7_1 + 1)), (by first | rfl | (simp; done) | (simp only [← hji15] <;> (first | rfl | simp)) | (simp [*]; done)), (by first | rfl | (simp; done) | (simp [*]; done)), H', ⟨by have := HK1.out; omega⟩, ⟨by (with_reducible repeat (first | apply Kd.R_alloc | apply Kd.R_drewN | apply Kd.R_drew)); exact HO123.out⟩, ⟨by repeat (first | (with_reducible first | exact HB.out | apply below_alloc | apply pw_below_drewN | apply below_drew1) | exact HB.out)⟩⟩
                    · rw [if_neg c21] at H
                      exact absurd H (by simp)
                  · rw [if_neg c20] at H
                    exact absurd H (by simp)
                · rw [if_neg c19] at H
                  exact absurd H (by simp)
            · rw [if_neg c14] at H
              have c14b0 : (((rd_T50 l1 x7_1).f0) == 1) = false := beq_eq_false_iff_ne.mpr c14
              have c14b1 : (((rd_T50 l1 x7_1).f0) != 1) = true := bne_iff_ne.mpr c14
              by_cases c23 : ((rd_T50 l1 x7_1).f0) = 2
              · rw [if_pos c23] at H
                have c23b0 : (((rd_T50 l1 x7_1).f0) == 2) = true := beq_iff_eq.mpr c23
                have c23b1 : (((rd_T50 l1 x7_1).f0) != 2) = false := bne_eq_false_iff_eq.mpr c23
                clear c23
                obtain ⟨ji24, hji24⟩ : ∃ j_ : Int, (mn (wrap64 (((rd_T50 l1 x7_1).f1) - 1)) (wrap64 ((l0.length : Int) - 1))) = j_ := ⟨_, rfl⟩
                replace H : (if ((rd_T50 l1 x7_1).f1) < 1 then (if ((rd_T50 l1 x7_1).f0) = 4 then (if x5_1.length < 5864062014805 then (spec_Moves.l0 k1 l0 l1 (x5_1 ++ [(⟨(⟨#[]⟩ : ByteArray), 1⟩ : S52)]) 0 (wrap64 (x7_1 + 1))) else (none)) else (if 0 < (l0.length : Int) then (if x5_1.length < 5864062014805 then (spec_Moves.l0 k1 l0 l1 (x5_1 ++ [(⟨rdOf ByteArray.empty l0 0, 0⟩ : S52)]) 0 (wrap64 (x7_1 + 1))) else (none)) else (none))) else (if ((rd_T50 l1 x7_1).f0) = 4 then (if x5_1.length < 5864062014805 then (spec_Moves.l0 k1 l0 l1 (x5_1 ++ [(⟨(⟨#[]⟩ : ByteArray), wrap64 ((mx 0 (ji24)) + 1)⟩ : S52)]) (mx 0 (ji24)) (wrap64 (x7_1 + 1))) else (none)) else (if 0 ≤ (mx 0 (ji24)) then (if (mx 0 (ji24)) < (l0.length : Int) then (if x5_1.length < 5864062014805 then (spec_Moves.l0 k1 l0 l1 (x5_1 ++ [(⟨rdOf ByteArray.empty l0 (mx 0 (ji24)), 0⟩ : S52)]) (mx 0 (ji24)) (wrap64 (x7_1 + 1))) else (none)) else (none)) else (none)))) = some r := by first | (rw [hji24] at H; exact H) | (simp only [hji24] at H ⊢; exact H)
                have hji24_ : (if (wrap64 ((l0.length : Int) - 1)) < (wrap64 (((rd_T50 l1 x7_1).f1) - 1)) then (wrap64 ((l0.length : Int) - 1)) else (wrap64 (((rd_T50 l1 x7_1).f1) - 1))) = ji24 := hji24
                obtain ⟨ji25, hji25⟩ : ∃ j_ : Int, (mx 0 (ji24)) = j_ := ⟨_, rfl⟩
                replace H : (if ((rd_T50 l1 x7_1).f1) < 1 then (if ((rd_T50 l1 x7_1).f0) = 4 then (if x5_1.length < 5864062014805 then (spec_Moves.l0 k1 l0 l1 (x5_1 ++ [(⟨(⟨#[]⟩ : ByteArray), 1⟩ : S52)]) 0 (wrap64 (x7_1 + 1))) else (none)) else (if 0 < (l0.length : Int) then (if x5_1.length < 5864062014805 then (spec_Moves.l0 k1 l0 l1 (x5_1 ++ [(⟨rdOf ByteArray.empty l0 0, 0⟩ : S52)]) 0 (wrap64 (x7_1 + 1))) else (none)) else (none))) else (if ((rd_T50 l1 x7_1).f0) = 4 then (if x5_1.length < 5864062014805 then (spec_Moves.l0 k1 l0 l1 (x5_1 ++ [(⟨(⟨#[]⟩ : ByteArray), wrap64 ((ji25) + 1)⟩ : S52)]) ji25 (wrap64 (x7_1 + 1))) else (none)) else (if 0 ≤ (ji25) then (if (ji25) < (l0.length : Int) then (if x5_1.length < 5864062014805 then (spec_Moves.l0 k1 l0 l1 (x5_1 ++ [(⟨rdOf ByteArray.empty l0 (ji25), 0⟩ : S52)]) ji25 (wrap64 (x7_1 + 1))) else (none)) else (none)) else (none)))) = some r := by first | (rw [hji25] at H; exact H) | (simp only [hji25] at H ⊢; exact H)
                have hji25_ : (if 0 < (ji24) then (ji24) else 0) = ji25 := hji25
                by_cases c26 : ((rd_T50 l1 x7_1).f1) < 1
                · rw [if_pos c26] at H
                  have c26b0 : decide (((rd_T50 l1 x7_1).f1) < 1) = true := decide_eq_true c26
                  clear c26
                  by_cases c27 : ((rd_T50 l1 x7_1).f0) = 4
                  · rw [if_pos c27] at H
                    have c27b0 : (((rd_T50 l1 x7_1).f0) == 4) = true := beq_iff_eq.mpr c27
                    have c27b1 : (((rd_T50 l1 x7_1).f0) != 4) = false := bne_eq_false_iff_eq.mpr c27
                    clear c27
                    by_cases c28 : x5_1.length < 5864062014805
                    · rw [if_pos c28] at H
                      have LMc28 := Aside0.mk c28
                      clear c28
                      obtain ⟨y127, hy127⟩ : ∃ y_ : List (S52), y_ = (x5_1 ++ [(⟨(⟨#[]⟩ : ByteArray), 1⟩ : S52)]) := ⟨_, rfl⟩
                      replace H : (spec_Moves.l0 k1 l0 l1 y127 0 (wrap64 (x7_1 + 1))) = some r := by first | (rw [hy127]; with_reducible exact H) | (have H2_ := (Option.bind_some _ _).symm.trans H; rw [hy127]; with_reducible exact H2_) | (have H2_ := (Option.bind_some _ _).symm.trans H; with_reducible exact H2_) | with_reducible exact H | (rw [hy127]; exact H) | exact H
                      have Ny127 := Aside0.mk hy127
                      clear hy127
                      have H' := Aside0.mk H
                      clear H
                      have p107 : 0 ≤ (x7_1 : Int) := of_decide_eq_true (by first | (with_reducible assumption) | assumption)
                      have q107 : x7_1 < (l1.length : Int) := of_decide_eq_true (by first | (with_reducible assumption) | assumption)
                      obtain ⟨ad107, e107, hx107_0, hx107_1⟩ := at_T50 HR1.out x7_1 p107 q107
                      cases e107
                      replace hx107_0 := (HB.out.cell (World.block_lt_of_cell? w _ hx107_0)).trans hx107_0
                      replace hx107_1 := (HB.out.cell (World.block_lt_of_cell? w _ hx107_1)).trans hx107_1
                      replace p107 := eq_true p107
                      replace q107 := eq_true q107
                      have p124 : 0 ≤ (x7_1 : Int) := of_decide_eq_true (by first | (with_reducible assumption) | assumption)
                      have q124 : x7_1 < (l1.length : Int) := of_decide_eq_true (by first | (with_reducible assumption) | assumption)
                      obtain ⟨ad124, e124, hx124_0, hx124_1⟩ := at_T50 HR1.out x7_1 p124 q124
                      obtain rfl : ad107 = ad124 := (by injection e124)
                      replace hx124_0 := (HB.out.cell (World.block_lt_of_cell? w _ hx124_0)).trans hx124_0
                      replace hx124_1 := (HB.out.cell (World.block_lt_of_cell? w _ hx124_1)).trans hx124_1
                      replace p124 := eq_true p124
                      replace q124 := eq_true q124
                      have p125 : 0 ≤ (x7_1 : Int) := of_decide_eq_true (by first | (with_reducible assumption) | assumption)
                      have q125 : x7_1 < (l1.length : Int) := of_decide_eq_true (by first | (with_reducible assumption) | assumption)
                      obtain ⟨ad125, e125, hx125_0, hx125_1⟩ := at_T50 HR1.out x7_1 p125 q125
                      obtain rfl : ad107 = ad125 := (by injection e125)
                      replace hx125_0 := (HB.out.cell (World.block_lt_of_cell? w _ hx125_0)).trans hx125_0
                      replace hx125_1 := (HB.out.cell (World.block_lt_of_cell? w _ hx125_1)).trans hx125_1
                      replace p125 := eq_true p125
                      replace q125 := eq_true q125
                      have p126 : 0 ≤ (x7_1 : Int) := of_decide_eq_true (by first | (with_reducible assumption) | assumption)
                      have q126 : x7_1 < (l1.length : Int) := of_decide_eq_true (by first | (with_reducible assumption) | assumption)
                      obtain ⟨ad126, e126, hx126_0, hx126_1⟩ := at_T50 HR1.out x7_1 p126 q126
                      obtain rfl : ad107 = ad126 := (by injection e126)
                      replace hx126_0 := (HB.out.cell (World.block_lt_of_cell? w _ hx126_0)).trans hx126_0
                      replace hx126_1 := (HB.out.cell (World.block_lt_of_cell? w _ hx126_1)).trans hx126_1
                      replace p126 := eq_true p126
                      replace q126 := eq_true q126
                      go_wp2_with (first | ((with_reducible refine gate_builtin (b := .append) (xs := #[.tmp 57, .tmp 61]) rfl ?_); at_builtin; refine Kd.R_append k52 (w0 := w) w.heap.size rfl (.tmp 57) (.tmp 61) 46 52 (.agg #[(.string ⟨#[]⟩), (.int .i64 0)]) 24 rfl Try.underlying46 info52 rfl (by decide) (by omega) u5 x5_1 (⟨(⟨#[]⟩ : ByteArray), 1⟩ : S52) [.string (⟨#[]⟩ : ByteArray), .int .i64 1] (fun _ => True) (fun _ => False) rfl rfl ?aP (fun _ hk => hk.elim) ?aF ?aO ?aB ?aS ?aL ?_; (case aP => exact k52_mkM _ _ _ (⟨(⟨#[]⟩ : ByteArray), 1⟩ : S52)); (case aB => exact (by repeat (first | (with_reducible first | exact HB.out | apply below_alloc | apply pw_below_drewN | apply below_drew1) | exact HB.out))); (case aF => exact (fun _ _ => trivial)); (case aO => exact (by (with_reducible repeat (first | apply Kd.R_alloc | apply Kd.R_drewN | apply Kd.R_drew)); exact HO_5.out)); (case aS => exact (below_size (by repeat (first | (with_reducible first | exact HB.out | apply below_alloc | apply pw_below_drewN | apply below_drew1) | exact HB.out)))); (case aL => have := LMc28.out; omega); intro v128 w29 ho hb hg hat; rw [← Ny127.out] at ho; have n0_ := Aside0.mk (hb); have n1_ := Aside0.mk (ho); clear HB; clear HO_5; have HB := n0_; have HO129 := n1_; clear n0_ n1_; clear ho hb hg hat))
                      go_roundg k1
                      case measure => have := HK1.out; omega
                      case rel => exact ⟨(y127), (0), (wrap64 (x7_1 + 1)), (by first | rfl | (simp; done) | (simp [*]; done)), (by first | rfl | (simp; done) | (simp [*]; done)), H', ⟨by have := HK1.out; omega⟩, ⟨by (with_reducible repeat (first | apply Kd.R_alloc | apply Kd.R_drewN | apply Kd.R_drew)); exact HO129.out⟩, ⟨by repeat (first | (with_reducible first | exact HB.out | apply below_alloc | apply pw_below_drewN | apply below_drew1) | exact HB.out)⟩⟩
                    · rw [if_neg c28] at H
                      exact absurd H (by simp)
                  · rw [if_neg c27] at H
                    have c27b0 : (((rd_T50 l1 x7_1).f0) == 4) = false := beq_eq_false_iff_ne.mpr c27
                    have c27b1 : (((rd_T50 l1 x7_1).f0) != 4) = true := bne_iff_ne.mpr c27
                    by_cases c30 : 0 < (l0.length : Int)
                    · rw [if_pos c30] at H
                      have c30b0 : decide (0 < (l0.length : Int)) = true := decide_eq_true c30
                      have c30b1 : decide (0 < l0.length) = true := decide_eq_true (by omega)
                      clear c30
                      by_cases c31 : x5_1.length < 5864062014805
                      · rw [if_pos c31] at H
                        have LMc31 := Aside0.mk c31
                        clear c31
                        obtain ⟨y131, hy131⟩ : ∃ y_ : List (S52), y_ = (x5_1 ++ [(⟨rdOf ByteArray.empty l0 0, 0⟩ : S52)]) := ⟨_, rfl⟩
                        replace H : (spec_Moves.l0 k1 l0 l1 y131 0 (wrap64 (x7_1 + 1))) = some r := by first | (rw [hy131]; with_reducible exact H) | (have H2_ := (Option.bind_some _ _).symm.trans H; rw [hy131]; with_reducible exact H2_) | (have H2_ := (Option.bind_some _ _).symm.trans H; with_reducible exact H2_) | with_reducible exact H | (rw [hy131]; exact H) | exact H
                        have Ny131 := Aside0.mk hy131
                        clear hy131
                        have H' := Aside0.mk H
                        clear H
                        have p107 : 0 ≤ (x7_1 : Int) := of_decide_eq_true (by first | (with_reducible assumption) | assumption)
                        have q107 : x7_1 < (l1.length : Int) := of_decide_eq_true (by first | (with_reducible assumption) | assumption)
                        obtain ⟨ad107, e107, hx107_0, hx107_1⟩ := at_T50 HR1.out x7_1 p107 q107
                        cases e107
                        replace hx107_0 := (HB.out.cell (World.block_lt_of_cell? w _ hx107_0)).trans hx107_0
                        replace hx107_1 := (HB.out.cell (World.block_lt_of_cell? w _ hx107_1)).trans hx107_1
                        replace p107 := eq_true p107
                        replace q107 := eq_true q107
                        have p124 : 0 ≤ (x7_1 : Int) := of_decide_eq_true (by first | (with_reducible assumption) | assumption)
                        have q124 : x7_1 < (l1.length : Int) := of_decide_eq_true (by first | (with_reducible assumption) | assumption)
                        obtain ⟨ad124, e124, hx124_0, hx124_1⟩ := at_T50 HR1.out x7_1 p124 q124
                        obtain rfl : ad107 = ad124 := (by injection e124)
                        replace hx124_0 := (HB.out.cell (World.block_lt_of_cell? w _ hx124_0)).trans hx124_0
                        replace hx124_1 := (HB.out.cell (World.block_lt_of_cell? w _ hx124_1)).trans hx124_1
                        replace p124 := eq_true p124
                        replace q124 := eq_true q124
                        have p125 : 0 ≤ (x7_1 : Int) := of_decide_eq_true (by first | (with_reducible assumption) | assumption)
                        have q125 : x7_1 < (l1.length : Int) := of_decide_eq_true (by first | (with_reducible assumption) | assumption)
                        obtain ⟨ad125, e125, hx125_0, hx125_1⟩ := at_T50 HR1.out x7_1 p125 q125
                        obtain rfl : ad107 = ad125 := (by injection e125)
                        replace hx125_0 := (HB.out.cell (World.block_lt_of_cell? w _ hx125_0)).trans hx125_0
                        replace hx125_1 := (HB.out.cell (World.block_lt_of_cell? w _ hx125_1)).trans hx125_1
                        replace p125 := eq_true p125
                        replace q125 := eq_true q125
                        have p126 : 0 ≤ (x7_1 : Int) := of_decide_eq_true (by first | (with_reducible assumption) | assumption)
                        have q126 : x7_1 < (l1.length : Int) := of_decide_eq_true (by first | (with_reducible assumption) | assumption)
                        obtain ⟨ad126, e126, hx126_0, hx126_1⟩ := at_T50 HR1.out x7_1 p126 q126
                        obtain rfl : ad107 = ad126 := (by injection e126)
                        replace hx126_0 := (HB.out.cell (World.block_lt_of_cell? w _ hx126_0)).trans hx126_0
                        replace hx126_1 := (HB.out.cell (World.block_lt_of_cell? w _ hx126_1)).trans hx126_1
                        replace p126 := eq_true p126
                        replace q126 := eq_true q126
                        have p130 : 0 ≤ (0 : Int) := (by omega)
                        have q130 : 0 < (l0.length : Int) := of_decide_eq_true (by first | (with_reducible assumption) | assumption)
                        obtain ⟨ad130, e130, hx130_0⟩ := Kd.at_string HR0.out 0 p130 q130
                        cases e130
                        have qi130 : (0 < l0.length) = True := eq_true (by omega)
                        (try rw [show ((0 : Int)).toNat = 0 from rfl] at hx130_0)
                        (try rw [Addr.add_zero'] at hx130_0)
                        replace hx130_0 := (HB.out.cell (World.block_lt_of_cell? w _ hx130_0)).trans hx130_0
                        replace p130 := eq_true p130
                        replace q130 := eq_true q130
                        go_wp2_with (first | ((with_reducible refine gate_builtin (b := .append) (xs := #[.tmp 63, .tmp 69]) rfl ?_); at_builtin; refine Kd.R_append k52 (w0 := w) w.heap.size rfl (.tmp 63) (.tmp 69) 46 52 (.agg #[(.string ⟨#[]⟩), (.int .i64 0)]) 24 rfl Try.underlying46 info52 rfl (by decide) (by omega) u5 x5_1 (⟨rdOf ByteArray.empty l0 0, 0⟩ : S52) [.string (rdOf ByteArray.empty l0 0), .int .i64 0] (fun _ => True) (fun _ => False) rfl rfl ?aP (fun _ hk => hk.elim) ?aF ?aO ?aB ?aS ?aL ?_; (case aP => exact k52_mkM _ _ _ (⟨rdOf ByteArray.empty l0 0, 0⟩ : S52)); (case aB => exact (by repeat (first | (with_reducible first | exact HB.out | apply below_alloc | apply pw_below_drewN | apply below_drew1) | exact HB.out))); (case aF => exact (fun _ _ => trivial)); (case aO => exact (by (with_reducible repeat (first | apply Kd.R_alloc | apply Kd.R_drewN | apply Kd.R_drew)); exact HO_5.out)); (case aS => exact (below_size (by repeat (first | (with_reducible first | exact HB.out | apply below_alloc | apply pw_below_drewN | apply below_drew1) | exact HB.out)))); (case aL => have := LMc31.out; omega); intro v132 w32 ho hb hg hat; rw [← Ny131.out] at ho; have n0_ := Aside0.mk (hb); have n1_ := Aside0.mk (ho); clear HB; clear HO_5; have HB := n0_; have HO133 := n1_; clear n0_ n1_; clear ho hb hg hat))
                        go_roundg k1
                        case measure => have := HK1.out; omega
                        case rel => exact ⟨(y131), (0), (wrap64 (x7_1 + 1)), (by first | rfl | (simp; done) | (simp [*]; done)), (by first | rfl | (simp; done) | (simp [*]; done)), H', ⟨by have := HK1.out; omega⟩, ⟨by (with_reducible repeat (first | apply Kd.R_alloc | apply Kd.R_drewN | apply Kd.R_drew)); exact HO133.out⟩, ⟨by repeat (first | (with_reducible first | exact HB.out | apply below_alloc | apply pw_below_drewN | apply below_drew1) | exact HB.out)⟩⟩
                      · rw [if_neg c31] at H
                        exact absurd H (by simp)
                    · rw [if_neg c30] at H
                      exact absurd H (by simp)
                · rw [if_neg c26] at H
                  have c26b0 : decide (((rd_T50 l1 x7_1).f1) < 1) = false := decide_eq_false c26
                  clear c26
                  by_cases c33 : ((rd_T50 l1 x7_1).f0) = 4
                  · rw [if_pos c33] at H
                    have c33b0 : (((rd_T50 l1 x7_1).f0) == 4) = true := beq_iff_eq.mpr c33
                    have c33b1 : (((rd_T50 l1 x7_1).f0) != 4) = false := bne_eq_false_iff_eq.mpr c33
                    clear c33
                    by_cases c34 : x5_1.length < 5864062014805
                    · rw [if_pos c34] at H
                      have LMc34 := Aside0.mk c34
                      clear c34
                      obtain ⟨y135, hy135⟩ : ∃ y_ : List (S52), y_ = (x5_1 ++ [(⟨(⟨#[]⟩ : ByteArray), wrap64 ((ji25) + 1)⟩ : S52)]) := ⟨_, rfl⟩
                      replace H : (spec_Moves.l0 k1 l0 l1 y135 ji25 (wrap64 (x7_1 + 1))) = some r := by first | (rw [hy135]; with_reducible exact H) | (have H2_ := (Option.bind_some _ _).symm.trans H; rw [hy135]; with_reducible exact H2_) | (have H2_ := (Option.bind_some _ _).symm.trans H; with_reducible exact H2_) | with_reducible exact H | (rw [hy135]; exact H) | exact H
                      have Ny135 := Aside0.mk hy135
                      clear hy135
                      have H' := Aside0.mk H
                      clear H
                      have p107 : 0 ≤ (x7_1 : Int) := of_decide_eq_true (by first | (with_reducible assumption) | assumption)
                      have q107 : x7_1 < (l1.length : Int) := of_decide_eq_true (by first | (with_reducible assumption) | assumption)
                      obtain ⟨ad107, e107, hx107_0, hx107_1⟩ := at_T50 HR1.out x7_1 p107 q107
                      cases e107
                      replace hx107_0 := (HB.out.cell (World.block_lt_of_cell? w _ hx107_0)).trans hx107_0
                      replace hx107_1 := (HB.out.cell (World.block_lt_of_cell? w _ hx107_1)).trans hx107_1
                      replace p107 := eq_true p107
                      replace q107 := eq_true q107
                      have p124 : 0 ≤ (x7_1 : Int) := of_decide_eq_true (by first | (with_reducible assumption) | assumption)
                      have q124 : x7_1 < (l1.length : Int) := of_decide_eq_true (by first | (with_reducible assumption) | assumption)
                      obtain ⟨ad124, e124, hx124_0, hx124_1⟩ := at_T50 HR1.out x7_1 p124 q124
                      obtain rfl : ad107 = ad124 := (by injection e124)
                      replace hx124_0 := (HB.out.cell (World.block_lt_of_cell? w _ hx124_0)).trans hx124_0
                      replace hx124_1 := (HB.out.cell (World.block_lt_of_cell? w _ hx124_1)).trans hx124_1
                      replace p124 := eq_true p124
                      replace q124 := eq_true q124
                      have p125 : 0 ≤ (x7_1 : Int) := of_decide_eq_true (by first | (with_reducible assumption) | assumption)
                      have q125 : x7_1 < (l1.length : Int) := of_decide_eq_true (by first | (with_reducible assumption) | assumption)
                      obtain ⟨ad125, e125, hx125_0, hx125_1⟩ := at_T50 HR1.out x7_1 p125 q125
                      obtain rfl : ad107 = ad125 := (by injection e125)
                      replace hx125_0 := (HB.out.cell (World.block_lt_of_cell? w _ hx125_0)).trans hx125_0
                      replace hx125_1 := (HB.out.cell (World.block_lt_of_cell? w _ hx125_1)).trans hx125_1
                      replace p125 := eq_true p125
                      replace q125 := eq_true q125
                      have p134 : 0 ≤ (x7_1 : Int) := of_decide_eq_true (by first | (with_reducible assumption) | assumption)
                      have q134 : x7_1 < (l1.length : Int) := of_decide_eq_true (by first | (with_reducible assumption) | assumption)
                      obtain ⟨ad134, e134, hx134_0, hx134_1⟩ := at_T50 HR1.out x7_1 p134 q134
                      obtain rfl : ad107 = ad134 := (by injection e134)
                      replace hx134_0 := (HB.out.cell (World.block_lt_of_cell? w _ hx134_0)).trans hx134_0
                      replace hx134_1 := (HB.out.cell (World.block_lt_of_cell? w _ hx134_1)).trans hx134_1
                      replace p134 := eq_true p134
                      replace q134 := eq_true q134
                      go_wp2_with (first | ((with_reducible refine gate_builtin (b := .append) (xs := #[.tmp 57, .tmp 61]) rfl ?_); at_builtin; refine Kd.R_append k52 (w0 := w) w.heap.size rfl (.tmp 57) (.tmp 61) 46 52 (.agg #[(.string ⟨#[]⟩), (.int .i64 0)]) 24 rfl Try.underlying46 info52 rfl (by decide) (by omega) u5 x5_1 (⟨(⟨#[]⟩ : ByteArray), wrap64 ((ji25) + 1)⟩ : S52) [.string (⟨#[]⟩ : ByteArray), .int .i64 (wrap64 ((ji25) + 1))] (fun _ => True) (fun _ => False) rfl rfl ?aP (fun _ hk => hk.elim) ?aF ?aO ?aB ?aS ?aL ?_; (case aP => exact k52_mkM _ _ _ (⟨(⟨#[]⟩ : ByteArray), wrap64 ((ji25) + 1)⟩ : S52)); (case aB => exact (by repeat (first | (with_reducible first | exact HB.out | apply below_alloc | apply pw_below_drewN | apply below_drew1) | exact HB.out))); (case aF => exact (fun _ _ => trivial)); (case aO => exact (by (with_reducible repeat (first | apply Kd.R_alloc | apply Kd.R_drewN | apply Kd.R_drew)); exact HO_5.out)); (case aS => exact (below_size (by repeat (first | (with_reducible first | exact HB.out | apply below_alloc | apply pw_below_drewN | apply below_drew1) | exact HB.out)))); (case aL => have := LMc34.out; omega); intro v136 w35 ho hb hg hat; rw [← Ny135.out] at ho; have n0_ := Aside0.mk (hb); have n1_ := Aside0.mk (ho); clear HB; clear HO_5; have HB := n0_; have HO137 := n1_; clear n0_ n1_; clear ho hb hg hat))
                      go_roundg k1
                      case measure => have := HK1.out; omega
                      case rel => exact ⟨(y135), (ji25), (wrap64 (x7_1 + 1)), (by first | rfl | (simp; done) | (simp only [← hji25] <;> (first | rfl | simp)) | (simp [*]; done)), (by first | rfl | (simp; done) | (simp [*]; done)), H', ⟨by have := HK1.out; omega⟩, ⟨by (with_reducible repeat (first | apply Kd.R_alloc | apply Kd.R_drewN | apply Kd.R_drew)); exact HO137.out⟩, ⟨by repeat (first | (with_reducible first | exact HB.out | apply below_alloc | apply pw_below_drewN | apply below_drew1) | exact HB.out)⟩⟩
                    · rw [if_neg c34] at H
                      exact absurd H (by simp)
                  · rw [if_neg c33] at H
                    have c33b0 : (((rd_T50 l1 x7_1).f0) == 4) = false := beq_eq_false_iff_ne.mpr c33
                    have c33b1 : (((rd_T50 l1 x7_1).f0) != 4) = true := bne_iff_ne.mpr c33
                    by_cases c36 : 0 ≤ (ji25)
                    · rw [if_pos c36] at H
                      have c36b0 : decide (0 ≤ (ji25)) = true := decide_eq_true c36
                      clear c36
                      by_cases c37 : (ji25) < (l0.length : Int)
                      · rw [if_pos c37] at H
                        have c37b0 : decide ((ji25) < (l0.length : Int)) = true := decide_eq_true c37
                        clear c37
                        by_cases c38 : x5_1.length < 5864062014805
                        · rw [if_pos c38] at H
                          have LMc38 := Aside0.mk c38
                          clear c38
                          obtain ⟨y139, hy139⟩ : ∃ y_ : List (S52), y_ = (x5_1 ++ [(⟨rdOf ByteArray.empty l0 (ji25), 0⟩ : S52)]) := ⟨_, rfl⟩
                          replace H : (spec_Moves.l0 k1 l0 l1 y139 ji25 (wrap64 (x7_1 + 1))) = some r := by first | (rw [hy139]; with_reducible exact H) | (have H2_ := (Option.bind_some _ _).symm.trans H; rw [hy139]; with_reducible exact H2_) | (have H2_ := (Option.bind_some _ _).symm.trans H; with_reducible exact H2_) | with_reducible exact H | (rw [hy139]; exact H) | exact H
                          have Ny139 := Aside0.mk hy139
                          clear hy139
                          have H' := Aside0.mk H
                          clear H
                          have p107 : 0 ≤ (x7_1 : Int) := of_decide_eq_true (by first | (with_reducible assumption) | assumption)
                          have q107 : x7_1 < (l1.length : Int) := of_decide_eq_true (by first | (with_reducible assumption) | assumption)
                          obtain ⟨ad107, e107, hx107_0, hx107_1⟩ := at_T50 HR1.out x7_1 p107 q107
                          cases e107
                          replace hx107_0 := (HB.out.cell (World.block_lt_of_cell? w _ hx107_0)).trans hx107_0
                          replace hx107_1 := (HB.out.cell (World.block_lt_of_cell? w _ hx107_1)).trans hx107_1
                          replace p107 := eq_true p107
                          replace q107 := eq_true q107
                          have p124 : 0 ≤ (x7_1 : Int) := of_decide_eq_true (by first | (with_reducible assumption) | assumption)
                          have q124 : x7_1 < (l1.length : Int) := of_decide_eq_true (by first | (with_reducible assumption) | assumption)
                          obtain ⟨ad124, e124, hx124_0, hx124_1⟩ := at_T50 HR1.out x7_1 p124 q124
                          obtain rfl : ad107 = ad124 := (by injection e124)
                          replace hx124_0 := (HB.out.cell (World.block_lt_of_cell? w _ hx124_0)).trans hx124_0
                          replace hx124_1 := (HB.out.cell (World.block_lt_of_cell? w _ hx124_1)).trans hx124_1
                          replace p124 := eq_true p124
                          replace q124 := eq_true q124
                          have p125 : 0 ≤ (x7_1 : Int) := of_decide_eq_true (by first | (with_reducible assumption) | assumption)
                          have q125 : x7_1 < (l1.length : Int) := of_decide_eq_true (by first | (with_reducible assumption) | assumption)
                          obtain ⟨ad125, e125, hx125_0, hx125_1⟩ := at_T50 HR1.out x7_1 p125 q125
                          obtain rfl : ad107 = ad125 := (by injection e125)
                          replace hx125_0 := (HB.out.cell (World.block_lt_of_cell? w _ hx125_0)).trans hx125_0
                          replace hx125_1 := (HB.out.cell (World.block_lt_of_cell? w _ hx125_1)).trans hx125_1
                          replace p125 := eq_true p125
                          replace q125 := eq_true q125
                          have p134 : 0 ≤ (x7_1 : Int) := of_decide_eq_true (by first | (with_reducible assumption) | assumption)
                          have q134 : x7_1 < (l1.length : Int) := of_decide_eq_true (by first | (with_reducible assumption) | assumption)
                          obtain ⟨ad134, e134, hx134_0, hx134_1⟩ := at_T50 HR1.out x7_1 p134 q134
                          obtain rfl : ad107 = ad134 := (by injection e134)
                          replace hx134_0 := (HB.out.cell (World.block_lt_of_cell? w _ hx134_0)).trans hx134_0
                          replace hx134_1 := (HB.out.cell (World.block_lt_of_cell? w _ hx134_1)).trans hx134_1
                          replace p134 := eq_true p134
                          replace q134 := eq_true q134
                          have p138 : 0 ≤ ((ji25) : Int) := of_decide_eq_true (by first | (with_reducible assumption) | assumption)
                          have q138 : (ji25) < (l0.length : Int) := of_decide_eq_true (by first | (with_reducible assumption) | assumption)
                          obtain ⟨ad138, e138, hx138_0⟩ := Kd.at_string HR0.out (ji25) p138 q138
                          cases e138
                          replace hx138_0 := (HB.out.cell (World.block_lt_of_cell? w _ hx138_0)).trans hx138_0
                          replace p138 := eq_true p138
                          replace q138 := eq_true q138
                          go_wp2_with (first | ((with_reducible refine gate_builtin (b := .append) (xs := #[.tmp 63, .tmp 69]) rfl ?_); at_builtin; refine Kd.R_append k52 (w0 := w) w.heap.size rfl (.tmp 63) (.tmp 69) 46 52 (.agg #[(.string ⟨#[]⟩), (.int .i64 0)]) 24 rfl Try.underlying46 info52 rfl (by decide) (by omega) u5 x5_1 (⟨rdOf ByteArray.empty l0 (ji25), 0⟩ : S52) [.string (rdOf ByteArray.empty l0 (ji25)), .int .i64 0] (fun _ => True) (fun _ => False) rfl rfl ?aP (fun _ hk => hk.elim) ?aF ?aO ?aB ?aS ?aL ?_; (case aP => exact k52_mkM _ _ _ (⟨rdOf ByteArray.empty l0 (ji25), 0⟩ : S52)); (case aB => exact (by repeat (first | (with_reducible first | exact HB.out | apply below_alloc | apply pw_below_drewN | apply below_drew1) | exact HB.out))); (case aF => exact (fun _ _ => trivial)); (case aO => exact (by (with_reducible repeat (first | apply Kd.R_alloc | apply Kd.R_drewN | apply Kd.R_drew)); exact HO_5.out)); (case aS => exact (below_size (by repeat (first | (with_reducible first | exact HB.out | apply below_alloc | apply pw_below_drewN | apply below_drew1) | exact HB.out)))); (case aL => have := LMc38.out; omega); intro v140 w39 ho hb hg hat; rw [← Ny139.out] at ho; have n0_ := Aside0.mk (hb); have n1_ := Aside0.mk (ho); clear HB; clear HO_5; have HB := n0_; have HO141 := n1_; clear n0_ n1_; clear ho hb hg hat))
                          go_roundg k1
                          case measure => have := HK1.out; omega
                          case rel => exact ⟨(y139), (ji25), (wrap64 (x7_1 + 1)), (by first | rfl | (simp; done) | (simp only [← hji25] <;> (first | rfl | simp)) | (simp [*]; done)), (by first | rfl | (simp; done) | (simp [*]; done)), H', ⟨by have := HK1.out; omega⟩, ⟨by (with_reducible repeat (first | apply Kd.R_alloc | apply Kd.R_drewN | apply Kd.R_drew)); exact HO141.out⟩, ⟨by repeat (first | (with_reducible first | exact HB.out | apply below_alloc | apply pw_below_drewN | apply below_drew1) | exact HB.out)⟩⟩
                        · rw [if_neg c38] at H
                          exact absurd H (by simp)
                      · rw [if_neg c37] at H
                        exact absurd H (by simp)
                    · rw [if_neg c36] at H
                      exact absurd H (by simp)
              · rw [if_neg c23] at H
                have c23b0 : (((rd_T50 l1 x7_1).f0) == 2) = false := beq_eq_false_iff_ne.mpr c23
                have c23b1 : (((rd_T50 l1 x7_1).f0) != 2) = true := bne_iff_ne.mpr c23
                by_cases c40 : ((rd_T50 l1 x7_1).f0) = 4
                · rw [if_pos c40] at H
                  have c40b0 : (((rd_T50 l1 x7_1).f0) == 4) = true := beq_iff_eq.mpr c40
                  have c40b1 : (((rd_T50 l1 x7_1).f0) != 4) = false := bne_eq_false_iff_eq.mpr c40
                  clear c40
                  by_cases c41 : x5_1.length < 5864062014805
                  · rw [if_pos c41] at H
                    have LMc41 := Aside0.mk c41
                    clear c41
                    obtain ⟨y143, hy143⟩ : ∃ y_ : List (S52), y_ = (x5_1 ++ [(⟨(⟨#[]⟩ : ByteArray), wrap64 (x6_1 + 1)⟩ : S52)]) := ⟨_, rfl⟩
                    replace H : (spec_Moves.l0 k1 l0 l1 y143 x6_1 (wrap64 (x7_1 + 1))) = some r := by first | (rw [hy143]; with_reducible exact H) | (have H2_ := (Option.bind_some _ _).symm.trans H; rw [hy143]; with_reducible exact H2_) | (have H2_ := (Option.bind_some _ _).symm.trans H; with_reducible exact H2_) | with_reducible exact H | (rw [hy143]; exact H) | exact H
                    have Ny143 := Aside0.mk hy143
                    clear hy143
                    have H' := Aside0.mk H
                    clear H
                    have p107 : 0 ≤ (x7_1 : Int) := of_decide_eq_true (by first | (with_reducible assumption) | assumption)
                    have q107 : x7_1 < (l1.length : Int) := of_decide_eq_true (by first | (with_reducible assumption) | assumption)
                    obtain ⟨ad107, e107, hx107_0, hx107_1⟩ := at_T50 HR1.out x7_1 p107 q107
                    cases e107
                    replace hx107_0 := (HB.out.cell (World.block_lt_of_cell? w _ hx107_0)).trans hx107_0
                    replace hx107_1 := (HB.out.cell (World.block_lt_of_cell? w _ hx107_1)).trans hx107_1
                    replace p107 := eq_true p107
                    replace q107 := eq_true q107
                    have p142 : 0 ≤ (x7_1 : Int) := of_decide_eq_true (by first | (with_reducible assumption) | assumption)
                    have q142 : x7_1 < (l1.length : Int) := of_decide_eq_true (by first | (with_reducible assumption) | assumption)
                    obtain ⟨ad142, e142, hx142_0, hx142_1⟩ := at_T50 HR1.out x7_1 p142 q142
                    obtain rfl : ad107 = ad142 := (by injection e142)
                    replace hx142_0 := (HB.out.cell (World.block_lt_of_cell? w _ hx142_0)).trans hx142_0
                    replace hx142_1 := (HB.out.cell (World.block_lt_of_cell? w _ hx142_1)).trans hx142_1
                    replace p142 := eq_true p142
                    replace q142 := eq_true q142
                    go_wp2_with (first | ((with_reducible refine gate_builtin (b := .append) (xs := #[.tmp 57, .tmp 61]) rfl ?_); at_builtin; refine Kd.R_append k52 (w0 := w) w.heap.size rfl (.tmp 57) (.tmp 61) 46 52 (.agg #[(.string ⟨#[]⟩), (.int .i64 0)]) 24 rfl Try.underlying46 info52 rfl (by decide) (by omega) u5 x5_1 (⟨(⟨#[]⟩ : ByteArray), wrap64 (x6_1 + 1)⟩ : S52) [.string (⟨#[]⟩ : ByteArray), .int .i64 (wrap64 (x6_1 + 1))] (fun _ => True) (fun _ => False) rfl rfl ?aP (fun _ hk => hk.elim) ?aF ?aO ?aB ?aS ?aL ?_; (case aP => exact k52_mkM _ _ _ (⟨(⟨#[]⟩ : ByteArray), wrap64 (x6_1 + 1)⟩ : S52)); (case aB => exact (by repeat (first | (with_reducible first | exact HB.out | apply below_alloc | apply pw_below_drewN | apply below_drew1) | exact HB.out))); (case aF => exact (fun _ _ => trivial)); (case aO => exact (by (with_reducible repeat (first | apply Kd.R_alloc | apply Kd.R_drewN | apply Kd.R_drew)); exact HO_5.out)); (case aS => exact (below_size (by repeat (first | (with_reducible first | exact HB.out | apply below_alloc | apply pw_below_drewN | apply below_drew1) | exact HB.out)))); (case aL => have := LMc41.out; omega); intro v144 w42 ho hb hg hat; rw [← Ny143.out] at ho; have n0_ := Aside0.mk (hb); have n1_ := Aside0.mk (ho); clear HB; clear HO_5; have HB := n0_; have HO145 := n1_; clear n0_ n1_; clear ho hb hg hat))
                    go_roundg k1
                    case measure => have := HK1.out; omega
                    case rel => exact ⟨(y143), (x6_1), (wrap64 (x7_1 + 1)), (by first | rfl | (simp; done) | (simp [*]; done)), (by first | rfl | (simp; done) | (simp [*]; done)), H', ⟨by have := HK1.out; omega⟩, ⟨by (with_reducible repeat (first | apply Kd.R_alloc | apply Kd.R_drewN | apply Kd.R_drew)); exact HO145.out⟩, ⟨by repeat (first | (with_reducible first | exact HB.out | apply below_alloc | apply pw_below_drewN | apply below_drew1) | exact HB.out)⟩⟩
                  · rw [if_neg c41] at H
                    exact absurd H (by simp)
                · rw [if_neg c40] at H
                  have c40b0 : (((rd_T50 l1 x7_1).f0) == 4) = false := beq_eq_false_iff_ne.mpr c40
                  have c40b1 : (((rd_T50 l1 x7_1).f0) != 4) = true := bne_iff_ne.mpr c40
                  by_cases c43 : 0 ≤ x6_1
                  · rw [if_pos c43] at H
                    have c43b0 : decide (0 ≤ x6_1) = true := decide_eq_true c43
                    clear c43
                    by_cases c44 : x6_1 < (l0.length : Int)
                    · rw [if_pos c44] at H
                      have c44b0 : decide (x6_1 < (l0.length : Int)) = true := decide_eq_true c44
                      clear c44
                      by_cases c45 : x5_1.length < 5864062014805
                      · rw [if_pos c45] at H
                        have LMc45 := Aside0.mk c45
                        clear c45
                        obtain ⟨y147, hy147⟩ : ∃ y_ : List (S52), y_ = (x5_1 ++ [(⟨rdOf ByteArray.empty l0 x6_1, 0⟩ : S52)]) := ⟨_, rfl⟩
                        replace H : (spec_Moves.l0 k1 l0 l1 y147 x6_1 (wrap64 (x7_1 + 1))) = some r := by first | (rw [hy147]; with_reducible exact H) | (have H2_ := (Option.bind_some _ _).symm.trans H; rw [hy147]; with_reducible exact H2_) | (have H2_ := (Option.bind_some _ _).symm.trans H; with_reducible exact H2_) | with_reducible exact H | (rw [hy147]; exact H) | exact H
                        have Ny147 := Aside0.mk hy147
                        clear hy147
                        have H' := Aside0.mk H
                        clear H
                        have p107 : 0 ≤ (x7_1 : Int) := of_decide_eq_true (by first | (with_reducible assumption) | assumption)
                        have q107 : x7_1 < (l1.length : Int) := of_decide_eq_true (by first | (with_reducible assumption) | assumption)
                        obtain ⟨ad107, e107, hx107_0, hx107_1⟩ := at_T50 HR1.out x7_1 p107 q107
                        cases e107
                        replace hx107_0 := (HB.out.cell (World.block_lt_of_cell? w _ hx107_0)).trans hx107_0
                        replace hx107_1 := (HB.out.cell (World.block_lt_of_cell? w _ hx107_1)).trans hx107_1
                        replace p107 := eq_true p107
                        replace q107 := eq_true q107
                        have p142 : 0 ≤ (x7_1 : Int) := of_decide_eq_true (by first | (with_reducible assumption) | assumption)
                        have q142 : x7_1 < (l1.length : Int) := of_decide_eq_true (by first | (with_reducible assumption) | assumption)
                        obtain ⟨ad142, e142, hx142_0, hx142_1⟩ := at_T50 HR1.out x7_1 p142 q142
                        obtain rfl : ad107 = ad142 := (by injection e142)
                        replace hx142_0 := (HB.out.cell (World.block_lt_of_cell? w _ hx142_0)).trans hx142_0
                        replace hx142_1 := (HB.out.cell (World.block_lt_of_cell? w _ hx142_1)).trans hx142_1
                        replace p142 := eq_true p142
                        replace q142 := eq_true q142
                        have p146 : 0 ≤ (x6_1 : Int) := of_decide_eq_true (by first | (with_reducible assumption) | assumption)
                        have q146 : x6_1 < (l0.length : Int) := of_decide_eq_true (by first | (with_reducible assumption) | assumption)
                        obtain ⟨ad146, e146, hx146_0⟩ := Kd.at_string HR0.out x6_1 p146 q146
                        cases e146
                        replace hx146_0 := (HB.out.cell (World.block_lt_of_cell? w _ hx146_0)).trans hx146_0
                        replace p146 := eq_true p146
                        replace q146 := eq_true q146
                        go_wp2_with (first | ((with_reducible refine gate_builtin (b := .append) (xs := #[.tmp 63, .tmp 69]) rfl ?_); at_builtin; refine Kd.R_append k52 (w0 := w) w.heap.size rfl (.tmp 63) (.tmp 69) 46 52 (.agg #[(.string ⟨#[]⟩), (.int .i64 0)]) 24 rfl Try.underlying46 info52 rfl (by decide) (by omega) u5 x5_1 (⟨rdOf ByteArray.empty l0 x6_1, 0⟩ : S52) [.string (rdOf ByteArray.empty l0 x6_1), .int .i64 0] (fun _ => True) (fun _ => False) rfl rfl ?aP (fun _ hk => hk.elim) ?aF ?aO ?aB ?aS ?aL ?_; (case aP => exact k52_mkM _ _ _ (⟨rdOf ByteArray.empty l0 x6_1, 0⟩ : S52)); (case aB => exact (by repeat (first | (with_reducible first | exact HB.out | apply below_alloc | apply pw_below_drewN | apply below_drew1) | exact HB.out))); (case aF => exact (fun _ _ => trivial)); (case aO => exact (by (with_reducible repeat (first | apply Kd.R_alloc | apply Kd.R_drewN | apply Kd.R_drew)); exact HO_5.out)); (case aS => exact (below_size (by repeat (first | (with_reducible first | exact HB.out | apply below_alloc | apply pw_below_drewN | apply below_drew1) | exact HB.out)))); (case aL => have := LMc45.out; omega); intro v148 w46 ho hb hg hat; rw [← Ny147.out] at ho; have n0_ := Aside0.mk (hb); have n1_ := Aside0.mk (ho); clear HB; clear HO_5; have HB := n0_; have HO149 := n1_; clear n0_ n1_; clear ho hb hg hat))
                        go_roundg k1
                        case measure => have := HK1.out; omega
                        case rel => exact ⟨(y147), (x6_1), (wrap64 (x7_1 + 1)), (by first | rfl | (simp; done) | (simp [*]; done)), (by first | rfl | (simp; done) | (simp [*]; done)), H', ⟨by have := HK1.out; omega⟩, ⟨by (with_reducible repeat (first | apply Kd.R_alloc | apply Kd.R_drewN | apply Kd.R_drew)); exact HO149.out⟩, ⟨by repeat (first | (with_reducible first | exact HB.out | apply below_alloc | apply pw_below_drewN | apply below_drew1) | exact HB.out)⟩⟩
                      · rw [if_neg c45] at H
                        exact absurd H (by simp)
                    · rw [if_neg c44] at H
                      exact absurd H (by simp)
                  · rw [if_neg c43] at H
                    exact absurd H (by simp)
        · rw [if_neg c4] at H
          exact absurd H (by simp)
      · rw [if_neg c3] at H
        have c3b0 : decide (x7_1 < (l1.length : Int)) = false := decide_eq_false c3
        clear c3
        obtain rfl := Option.some.inj H
        go_wp2
        go_ret
        exact ⟨_, by first | rfl | (simp [errW_none, errW_some] <;> rfl) | (simp [*, errW_none, errW_some] <;> rfl), by (with_reducible repeat (first | apply Kd.R_alloc | apply Kd.R_drewN | apply Kd.R_drew)); exact HO_5.out, by repeat (first | (with_reducible first | exact HB.out | apply below_alloc | apply pw_below_drewN | apply below_drew1) | exact HB.out)⟩

end Go.Proofs.YtkfkhafmgndgaaaRR.GM
