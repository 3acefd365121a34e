-- printed by a program of this session (gprint.py) out of the translation; Lean checks it
import Derived.Test.YtapbnbinoakbhaaGESx0
namespace Go.Proofs.Ytapbnbinoakbhaa.GES
open Go.RowKit Go.Proofs.YtapbnbinoakbhaaW.PrintWords Go.Proofs.YtapbnbinoakbhaaW.PrintLast Go.Proofs.YtapbnbinoakbhaaW.PrintMore
attribute [local go_sem] max2_int min2_int max_two min_two max_three min_three max_four min_four   -- for this text's walks alone
set_option linter.unusedVariables false
set_option linter.unusedSimpArgs false

/-! ### spec_TwAmong: function 9 -/
def spec_TwAmong.l0 : Nat → List Int → Int → Int → Option (Bool)
  | 0, _, _, _ => none
  | k + 1, x0, x1, x5 => if x5 < (x0.length : Int) then (if 0 ≤ x5 then (if (rd x0 x5) = x1 then (some true) else (spec_TwAmong.l0 k x0 x1 (wrap64 (x5 + 1)))) else (none)) else (some false)
def spec_TwAmong.f (k : Nat) (l0 : List Int) (a1 : Int) : Option (Bool) := spec_TwAmong.l0 k l0 a1 0
theorem spec_TwAmong.mono_l : ∀ k, (∀ y0 y1 y2, LeO (spec_TwAmong.l0 k y0 y1 y2) (spec_TwAmong.l0 (k + 1) y0 y1 y2))
  | 0 => fun _ _ _ r h => by simp [spec_TwAmong.l0] at h
  | k + 1 => by
    have ih0 := spec_TwAmong.mono_l k
    · intro y0 y1 y2
      unfold spec_TwAmong.l0
      repeat' first
      | (with_reducible exact ih0 _ _ _)
      | (with_reducible exact LeO.refl _)
      | (with_reducible exact LeO.none _)
      | (with_reducible refine LeO.ite ?_ ?_)
      | (with_reducible refine LeO.bind ?_ (fun _ => ?_))
      | exact ih0 _ _ _
      | exact LeO.none _
      | refine LeO.ite ?_ ?_
      | refine LeO.bind ?_ (fun _ => ?_)
theorem spec_TwAmong.mono : ∀ a0 a1 k, LeO (spec_TwAmong.f k a0 a1) (spec_TwAmong.f (k + 1) a0 a1) := by
  intro a0 a1 k
  have ih0 := spec_TwAmong.mono_l k
  unfold spec_TwAmong.f
  repeat' first
      | (with_reducible exact ih0 _ _ _)
      | (with_reducible exact LeO.refl _)
      | (with_reducible exact LeO.none _)
      | (with_reducible refine LeO.ite ?_ ?_)
      | (with_reducible refine LeO.bind ?_ (fun _ => ?_))
      | exact ih0 _ _ _
      | exact LeO.none _
      | refine LeO.ite ?_ ?_
      | refine LeO.bind ?_ (fun _ => ?_)
set_option maxHeartbeats 8000000 in
set_option maxRecDepth 100000 in
theorem spec_TwAmong.calls (k : Nat) (A0 : Option Addr) (c0 : Nat) (l0 : List Int) (a1 : Int) (r : Bool) (w : World) (hr0 : Kd.C (Kd.int .i64) w A0 l0.length l0) (hc0 : l0.length ≤ c0) (h : spec_TwAmong.f k l0 a1 = some r) :
    Calls Try.prog 9 #[.slice A0 l0.length c0, .int .i64 a1] w fun e w' => e = .returned (.bool r) ∧ Drawn0 w w' := by
  have HR0 := Aside0.mk hr0
  have HC0 := Aside0.mk hc0
  clear hr0 hc0
  have H : (spec_TwAmong.l0 k l0 a1 0) = some r := h
  clear h
  have H' := Aside0.mk H
  clear H
  go_enter Try.func9, Try.ntmps9
  go_wp2
  go_loopg [5] k (fun kq v5 w' => ∃ (x5_1 : Int), v5 = .int .i64 x5_1 ∧ Aside0 (spec_TwAmong.l0 kq l0 a1 x5_1 = some r) ∧ Aside0 (kq ≤ k) ∧ Drawn0 w w')
  case atStart => exact ⟨(0), (by first | rfl | (simp; done) | (simp [*]; done)), H', ⟨Nat.le_refl _⟩, by repeat (first | exact Drawn0.refl _ | apply Drawn0.step)⟩
  case round =>
    clear H'
    try clear p2
    obtain ⟨x5_1, rfl, HA, HK1, ⟨m1, rfl⟩⟩ := hrel
    cases gk with
    | zero => exact absurd HA.out (by simp [spec_TwAmong.l0])
    | succ k1 =>
      have H := HA.out
      clear HA
      simp only [spec_TwAmong.l0] at H
      by_cases c3 : x5_1 < (l0.length : Int)
      · rw [if_pos c3] at H
        have c3b0 : decide (x5_1 < (l0.length : Int)) = true := decide_eq_true c3
        clear c3
        by_cases c4 : 0 ≤ x5_1
        · rw [if_pos c4] at H
          have c4b0 : decide (0 ≤ x5_1) = true := decide_eq_true c4
          clear c4
          by_cases c5 : (rd l0 x5_1) = a1
          · rw [if_pos c5] at H
            have c5b0 : ((rd l0 x5_1) == a1) = true := beq_iff_eq.mpr c5
            have c5b1 : ((rd l0 x5_1) != a1) = false := bne_eq_false_iff_eq.mpr c5
            clear c5
            obtain rfl := Option.some.inj H
            have p101 : 0 ≤ (x5_1 : Int) := of_decide_eq_true (by first | (with_reducible assumption) | assumption)
            have q101 : x5_1 < (l0.length : Int) := of_decide_eq_true (by first | (with_reducible assumption) | assumption)
            obtain ⟨ad101, e101, hx101_0⟩ := Kd.at_int HR0.out x5_1 p101 q101
            cases e101
            replace p101 := eq_true p101
            replace q101 := eq_true q101
            go_wp2
            go_ret
            exact ⟨by first | rfl | (simp; done) | (simp [*]; done), by repeat (first | exact Drawn0.refl _ | apply Drawn0.step)⟩
          · rw [if_neg c5] at H
            have c5b0 : ((rd l0 x5_1) == a1) = false := beq_eq_false_iff_ne.mpr c5
            have c5b1 : ((rd l0 x5_1) != a1) = true := bne_iff_ne.mpr c5
            have H' := Aside0.mk H
            clear H
            have p101 : 0 ≤ (x5_1 : Int) := of_decide_eq_true (by first | (with_reducible assumption) | assumption)
            have q101 : x5_1 < (l0.length : Int) := of_decide_eq_true (by first | (with_reducible assumption) | assumption)
            obtain ⟨ad101, e101, hx101_0⟩ := Kd.at_int HR0.out x5_1 p101 q101
            cases e101
            replace p101 := eq_true p101
            replace q101 := eq_true q101
            go_wp2
            go_roundg k1
            case measure => have := HK1.out; omega
            case rel => exact ⟨(wrap64 (x5_1 + 1)), (by first | rfl | (simp; done) | (simp [*]; done)), H', ⟨by have := HK1.out; omega⟩, by repeat (first | exact Drawn0.refl _ | apply Drawn0.step)⟩
        · rw [if_neg c4] at H
          exact absurd H (by simp)
      · rw [if_neg c3] at H
        have c3b0 : decide (x5_1 < (l0.length : Int)) = false := decide_eq_false c3
        clear c3
        obtain rfl := Option.some.inj H
        go_wp2
        go_ret
        exact ⟨by first | rfl | (simp; done) | (simp [*]; done), by repeat (first | exact Drawn0.refl _ | apply Drawn0.step)⟩

/-! ### spec_TwSliced: function 20 -/
mutual
def spec_TwSliced.l0 : Nat → List Int → List Int → Int → Int → Int → Int → List Int → Option (List Int)
  | 0, _, _, _, _, _, _, _ => none
  | k + 1, x5, x30, x31, x32, x103000, x103001, x103002 => if x32 < x31 then (if 0 ≤ x32 then (if x32 < (x30.length : Int) then ((spec_TwAmong.f k x103002 (rd x30 x32)).bind fun t116 => (if t116 = true then (if x5.length < 17592186044416 then (spec_TwSliced.l0 k (x5 ++ [rd x30 x32]) x30 x31 (wrap64 (x32 + 1)) x103000 x103001 x103002) else (none)) else (spec_TwSliced.l0 k x5 x30 x31 (wrap64 (x32 + 1)) x103000 x103001 x103002))) else (none)) else (none)) else (some x5)
def spec_TwSliced.l1 : Nat → List Int → List Int → Int → Int → Int → Int → List Int → Option (List Int)
  | 0, _, _, _, _, _, _, _ => none
  | k + 1, x5, x48, x49, x50, x103000, x103001, x103002 => if x50 < x49 then (if 0 ≤ x50 then (if x50 < (x48.length : Int) then (if x5.length < 17592186044416 then (spec_TwSliced.l1 k (x5 ++ [wrap64 ((rd x48 x50) + x103001)]) x48 x49 (wrap64 (x50 + 1)) x103000 x103001 x103002) else (none)) else (none)) else (none)) else (some x5)
end
def spec_TwSliced.f (k : Nat) (l0 : List Int) (a1_0 : Int) (a1_1 : Int) (l1_2 : List Int) : Option (List Int) := if a1_0 = 0 then (if ([] : List Int).length + l0.length < 17592186044416 then ((some (([] : List Int) ++ l0 : List Int)).bind fun y103 => (if y103.length + l1_2.length < 17592186044416 then (some (y103 ++ l1_2)) else (none))) else (none)) else (if a1_0 = 1 then (if ([] : List Int).length + l1_2.length < 17592186044416 then ((some (([] : List Int) ++ l1_2 : List Int)).bind fun y109 => (if y109.length + l0.length < 17592186044416 then (some (y109 ++ l0)) else (none))) else (none)) else (if a1_0 = 3 then (spec_TwSliced.l0 k ([] : List Int) l0 (l0.length : Int) 0 a1_0 a1_1 l1_2) else (if a1_0 = 4 then (spec_TwSliced.l1 k ([] : List Int) l0 (l0.length : Int) 0 a1_0 a1_1 l1_2) else (some l0))))
theorem spec_TwSliced.mono_l : ∀ k, (∀ y0 y1 y2 y3 y4 y5 y6, LeO (spec_TwSliced.l0 k y0 y1 y2 y3 y4 y5 y6) (spec_TwSliced.l0 (k + 1) y0 y1 y2 y3 y4 y5 y6)) ∧ (∀ y0 y1 y2 y3 y4 y5 y6, LeO (spec_TwSliced.l1 k y0 y1 y2 y3 y4 y5 y6) (spec_TwSliced.l1 (k + 1) y0 y1 y2 y3 y4 y5 y6))
  | 0 => ⟨fun _ _ _ _ _ _ _ r h => by simp [spec_TwSliced.l0] at h, fun _ _ _ _ _ _ _ r h => by simp [spec_TwSliced.l1] at h⟩
  | k + 1 => by
    obtain ⟨ih0, ih1⟩ := spec_TwSliced.mono_l k
    refine ⟨?_, ?_⟩
    · intro y0 y1 y2 y3 y4 y5 y6
      unfold spec_TwSliced.l0
      repeat' first
      | (with_reducible exact ih0 _ _ _ _ _ _ _)
      | (with_reducible exact ih1 _ _ _ _ _ _ _)
      | (with_reducible exact spec_TwAmong.mono _ _ _)
      | (with_reducible exact LeO.refl _)
      | (with_reducible exact LeO.none _)
      | (with_reducible refine LeO.ite ?_ ?_)
      | (with_reducible refine LeO.bind ?_ (fun _ => ?_))
      | exact ih0 _ _ _ _ _ _ _
      | exact ih1 _ _ _ _ _ _ _
      | exact spec_TwAmong.mono _ _ _
      | exact LeO.none _
      | refine LeO.ite ?_ ?_
      | refine LeO.bind ?_ (fun _ => ?_)
    · intro y0 y1 y2 y3 y4 y5 y6
      unfold spec_TwSliced.l1
      repeat' first
      | (with_reducible exact ih0 _ _ _ _ _ _ _)
      | (with_reducible exact ih1 _ _ _ _ _ _ _)
      | (with_reducible exact spec_TwAmong.mono _ _ _)
      | (with_reducible exact LeO.refl _)
      | (with_reducible exact LeO.none _)
      | (with_reducible refine LeO.ite ?_ ?_)
      | (with_reducible refine LeO.bind ?_ (fun _ => ?_))
      | exact ih0 _ _ _ _ _ _ _
      | exact ih1 _ _ _ _ _ _ _
      | exact spec_TwAmong.mono _ _ _
      | exact LeO.none _
      | refine LeO.ite ?_ ?_
      | refine LeO.bind ?_ (fun _ => ?_)
theorem spec_TwSliced.mono : ∀ a0 a1 a2 a3 k, LeO (spec_TwSliced.f k a0 a1 a2 a3) (spec_TwSliced.f (k + 1) a0 a1 a2 a3) := by
  intro a0 a1 a2 a3 k
  obtain ⟨ih0, ih1⟩ := spec_TwSliced.mono_l k
  unfold spec_TwSliced.f
  repeat' first
      | (with_reducible exact ih0 _ _ _ _ _ _ _)
      | (with_reducible exact ih1 _ _ _ _ _ _ _)
      | (with_reducible exact spec_TwAmong.mono _ _ _)
      | (with_reducible exact LeO.refl _)
      | (with_reducible exact LeO.none _)
      | (with_reducible refine LeO.ite ?_ ?_)
      | (with_reducible refine LeO.bind ?_ (fun _ => ?_))
      | exact ih0 _ _ _ _ _ _ _
      | exact ih1 _ _ _ _ _ _ _
      | exact spec_TwAmong.mono _ _ _
      | exact LeO.none _
      | refine LeO.ite ?_ ?_
      | refine LeO.bind ?_ (fun _ => ?_)
set_option maxHeartbeats 8000000 in
set_option maxRecDepth 100000 in
theorem spec_TwSliced.calls (k : Nat) (P0_ : Nat → Prop) (u9000_ : Value) (l0 : List Int) (a1_0 : Int) (a1_1 : Int) (A1_2 : Option Addr) (c1_2 : Nat) (l1_2 : List Int) (r : List Int) (w0 w : World) (hB : Below w0.heap.size w0 w) (ho0 : Kd.R (Kd.int .i64) 3 w w0.heap.size P0_ u9000_ l0) (hr1_2 : ∀ W_, Kept w W_ (fun k_ => P0_ k_) → Kd.C (Kd.int .i64) W_ A1_2 l1_2.length l1_2) (hc1_2 : l1_2.length ≤ c1_2) (h : spec_TwSliced.f k l0 a1_0 a1_1 l1_2 = some r) :
    Calls Try.prog 20 #[u9000_, .agg #[.int .i64 a1_0, .int .i64 a1_1, .slice A1_2 l1_2.length c1_2]] w fun e w' => ∃ v0_ : Value, e = .returned (v0_) ∧ Kd.R (Kd.int .i64) 3 w' w0.heap.size (fun k_ => (P0_ k_ ∨ w.heap.size ≤ k_)) v0_ r ∧ Below w0.heap.size w0 w' ∧ Kept w w' (fun k_ => P0_ k_) := by
  have hu53 := Try.underlying53
  have HO0 := Aside0.mk (show Kd.R (Kd.int .i64) 3 w w0.heap.size (fun k_ => (P0_ k_ ∨ w.heap.size ≤ k_)) u9000_ l0 from Kd.R_mono ho0 (fun k_ hk => (.inl hk)))
  have HR1_2 := Aside0.mk hr1_2
  have HC1_2 := Aside0.mk hc1_2
  clear hr1_2 hc1_2
  have HK := Aside0.mk (Kept.refl w (fun k_ => P0_ k_))
  have HW0 := Aside0.mk hB.size
  have HB := Aside0.mk hB
  clear hB
  have H : (if a1_0 = 0 then (if ([] : List Int).length + l0.length < 17592186044416 then ((some (([] : List Int) ++ l0 : List Int)).bind fun y103 => (if y103.length + l1_2.length < 17592186044416 then (some (y103 ++ l1_2)) else (none))) else (none)) else (if a1_0 = 1 then (if ([] : List Int).length + l1_2.length < 17592186044416 then ((some (([] : List Int) ++ l1_2 : List Int)).bind fun y109 => (if y109.length + l0.length < 17592186044416 then (some (y109 ++ l0)) else (none))) else (none)) else (if a1_0 = 3 then (spec_TwSliced.l0 k ([] : List Int) l0 (l0.length : Int) 0 a1_0 a1_1 l1_2) else (if a1_0 = 4 then (spec_TwSliced.l1 k ([] : List Int) l0 (l0.length : Int) 0 a1_0 a1_1 l1_2) else (some l0))))) = some r := h
  clear h
  by_cases c3 : a1_0 = 0
  · rw [if_pos c3] at H
    have c3b0 : (a1_0 == 0) = true := beq_iff_eq.mpr c3
    have c3b1 : (a1_0 != 0) = false := bne_eq_false_iff_eq.mpr c3
    clear c3
    by_cases c4 : ([] : List Int).length + l0.length < 17592186044416
    · rw [if_pos c4] at H
      have LMc4 := Aside0.mk c4
      clear c4
      obtain ⟨y103, hy103⟩ : ∃ y_ : List Int, y_ = (([] : List Int) ++ l0) := ⟨_, rfl⟩
      replace H : (if y103.length + l1_2.length < 17592186044416 then (some (y103 ++ l1_2)) else (none)) = some r := by first | (rw [hy103]; with_reducible exact H) | (have H2_ := (Option.bind_some _ _).symm.trans H; rw [hy103]; with_reducible exact H2_) | (have H2_ := (Option.bind_some _ _).symm.trans H; with_reducible exact H2_) | with_reducible exact H | (rw [hy103]; exact H) | exact H
      have Ny103 := Aside0.mk hy103
      clear hy103
      by_cases c5 : y103.length + l1_2.length < 17592186044416
      · rw [if_pos c5] at H
        have LMc5 := Aside0.mk c5
        clear c5
        obtain ⟨y106, hy106⟩ : ∃ y_ : List Int, y_ = (y103 ++ l1_2) := ⟨_, rfl⟩
        replace H : (some y106) = some r := by first | (rw [hy106]; with_reducible exact H) | (have H2_ := (Option.bind_some _ _).symm.trans H; rw [hy106]; with_reducible exact H2_) | (have H2_ := (Option.bind_some _ _).symm.trans H; with_reducible exact H2_) | with_reducible exact H | (rw [hy106]; exact H) | exact H
        have Ny106 := Aside0.mk hy106
        clear hy106
        obtain rfl := Option.some.inj H
        go_enter Try.func20, Try.ntmps20
        try go_wp2_with (first | ((with_reducible refine gate_dst (N := 3) rfl ?_); refine box_event ?hg (N := 3) ?hd (cs := #[.int .i64 a1_0, .int .i64 a1_1, .slice A1_2 l1_2.length c1_2]) (t := 53) ?hr ?_; (case hd => rfl); (case hg => rfl); (case hr => first | (go_simp; done) | (go_simp; rfl)); intro gb102 hg w6 hbox hb; have n0_ := Aside0.mk (Kd.R_below (by (with_reducible repeat (first | apply Kd.R_alloc | apply Kd.R_drewN | apply Kd.R_drew)); exact HO0.out) hb); have n1_ := Aside0.mk (Kept.below (S := (fun k_ => P0_ k_)) (by repeat (first | (with_reducible first | exact HK.out | apply Kept.alloc | apply Kept.drewN | apply Kept.drew) | exact HK.out)) hb); have n2_ := Aside0.mk (below_step (by repeat (first | (with_reducible first | exact HB.out | apply below_alloc | apply pw_below_drewN | apply below_drew1) | exact HB.out)) hb); have n3_ := Aside0.mk (hbox); have n4_ := Aside0.mk ((by rw [hg]; exact (by first | exact HK.out.1 | exact (show Kept w _ (fun k_ => P0_ k_) from by repeat (first | (with_reducible first | exact HK.out | apply Kept.alloc | apply Kept.drewN | apply Kept.drew) | exact HK.out)).1) : w.heap.size ≤ gb102)); have n5_ := Aside0.mk ((by rw [hg]; exact (below_size (by repeat (first | (with_reducible first | exact HB.out | apply below_alloc | apply pw_below_drewN | apply below_drew1) | exact HB.out))) : w0.heap.size ≤ gb102)); clear HO0; clear HK; clear HB; have HO0 := n0_; have HK := n1_; have HB := n2_; have BK102 := n3_; have GW102 := n4_; have GE102 := n5_; clear n0_ n1_ n2_ n3_ n4_ n5_; clear hb hbox hg; have hcz7_0 : w6.cell? ⟨gb102, 0, none⟩ = some (.int .i64 a1_0) := (blk_cell BK102.out 0).trans rfl; have hcz7_1 : w6.cell? ⟨gb102, 1, none⟩ = some (.int .i64 a1_1) := (blk_cell BK102.out 1).trans rfl; have hcz7_2 : w6.cell? ⟨gb102, 2, none⟩ = some (.slice A1_2 l1_2.length c1_2) := (blk_cell BK102.out 2).trans rfl; have hfz7_0 := blk_frozen BK102.out 0; have hfz7_1 := blk_frozen BK102.out 1; have hfz7_2 := blk_frozen BK102.out 2))
        have n0_ := Aside0.mk (Kd.R_drew HO0.out)
        have n1_ := Aside0.mk (blk_drew BK102.out)
        have n2_ := Aside0.mk (Kept.drew HK.out)
        have n3_ := Aside0.mk (below_drew1 HB.out)
        clear HO0
        clear BK102
        clear HK
        clear HB
        have HO0 := n0_
        have BK102 := n1_
        have HK := n2_
        have HB := n3_
        clear n0_ n1_ n2_ n3_
        obtain ⟨Ao10, co10, eo10⟩ := Kd.R_slice HO0.out
        (first | subst eo10 | (injection eo10 with f1_ f2_ f3_; have f4_ := f1_.symm; have f5_ := f3_.symm; clear f1_ f2_ f3_; subst f4_; subst f5_))
        refine start_ (n := 7) (S := fun w' => w'.cell? ⟨gb102, 0, none⟩ = some (.int .i64 a1_0) ∧ w'.cell? ⟨gb102, 1, none⟩ = some (.int .i64 a1_1) ∧ w'.cell? ⟨gb102, 2, none⟩ = some (.slice A1_2 l1_2.length c1_2)) (ds := []) #[false, false, false, false, false, false, false] (by kernel_rfl) rfl rfl ⟨(blk_cell BK102.out 0).trans rfl, (blk_cell BK102.out 1).trans rfl, (blk_cell BK102.out 2).trans rfl⟩ (fun hHeld => ?_)
        generalize w6.drew = w8 at HO0 BK102 HK HB hHeld ⊢
        refine pure_ (i := 0) (N := some 14) (v := ?_) (a' := ?_) #[true, false, false, false, false, false, false] rfl rfl (by kernel_rfl) (fun _ _ _ h => h) (Or.inl ⟨by rfl, ?_⟩) ?_ ?_
        rotate_left
        · intro w'
          go_simp
          with_reducible rfl
        rotate_left
        · simp only [Act.put, List.setIfInBounds_toArray, List.set_cons_zero, List.set_cons_succ, i64_w, i32_w]
          rfl
        refine pure_ (i := 1) (N := some 15) (v := ?_) (a' := ?_) #[true, true, false, false, false, false, false] rfl rfl (by kernel_rfl) (fun _ _ _ h => h) (Or.inl ⟨by rfl, ?_⟩) ?_ ?_
        rotate_left
        · intro w'
          go_simp
          with_reducible rfl
        rotate_left
        · simp only [Act.put, List.setIfInBounds_toArray, List.set_cons_zero, List.set_cons_succ, i64_w, i32_w]
          rfl
        refine pure_ (i := 3) (N := some 17) (v := ?_) (a' := ?_) #[true, true, false, true, false, false, false] rfl rfl (by kernel_rfl) (fun _ _ _ h => h) (Or.inl ⟨by rfl, ?_⟩) ?_ ?_
        rotate_left
        · intro w'
          go_simp
          with_reducible rfl
        rotate_left
        · simp only [Act.put, List.setIfInBounds_toArray, List.set_cons_zero, List.set_cons_succ, i64_w, i32_w]
          rfl
        refine take_ (i := 4) (N := some 18) (v := ?_) (a' := ?_) #[true, true, false, true, true, false, false] rfl rfl (by kernel_rfl) (fun _ _ _ h => h) (Or.inl ⟨by rfl, ?_⟩) hHeld ?_ ?_
        rotate_left
        · rintro w' ⟨s0, s1, s2⟩
          go_simp
          with_reducible rfl
        rotate_left
        · simp only [Act.put, List.setIfInBounds_toArray, List.set_cons_zero, List.set_cons_succ, i64_w, i32_w]
          rfl
        refine one_ (i := 2) (N := some 16) #[true, true, true, true, true, false, false] rfl rfl (by kernel_rfl) (by decide) (fun K hK => ?_)
        refine Kd.R_append_rows_step (Kd.int .i64) (w0 := w0) w0.heap.size (by rfl) (.tmp 14) (.tmp 15) 29 3 (.int .i64 0) 8 rfl Try.underlying29 info3 rfl (by decide) (by omega) (.slice none 0 0) ([] : List Int) l0 _ _ _ (fun k_ => (P0_ k_ ∨ w.heap.size ≤ k_) ∧ some k_ ≠ (.slice Ao10 l0.length co10 : Value).ownBlock) (fun _ => False) rfl rfl ?aO ?aR (fun _ _ h => h) (fun _ h => h.elim) ?aF ?aB ?aS ?aL ?_
        (case aR => repeat (first | exact (Kd.R_reads' HO0.out).2.2 | (with_reducible refine Kd.C_alloc ?_ _) | (with_reducible refine Kd.C_drewN ?_ _) | (with_reducible refine Kd.C_drew ?_)))
        (case aB => exact (by repeat (first | (with_reducible first | exact HB.out | apply below_alloc | apply pw_below_drewN | apply below_drew1 | refine below_set ?_ GE102.out) | exact HB.out)))
        (case aF => exact (fun k_ hk => ⟨(.inr (Nat.le_trans (by first | exact HK.out.1 | exact (show Kept w _ (fun k_ => P0_ k_) from by repeat (first | (with_reducible first | exact HK.out | apply Kept.alloc | apply Kept.drewN | apply Kept.drew | refine Kept.setCell ?_ (.inr GW102.out) _) | exact HK.out)).1) hk)), Kd.fresh' (Kd.R_lt (by (with_reducible repeat (first | apply Kd.R_alloc | apply Kd.R_drewN | apply Kd.R_drew)); exact HO0.out)) k_ hk⟩))
        (case aO => exact ((Kd.R_nil _ _ _ _ (fun k_ => (P0_ k_ ∨ w.heap.size ≤ k_) ∧ some k_ ≠ (.slice Ao10 l0.length co10 : Value).ownBlock))))
        (case aS => exact (below_size (by repeat (first | (with_reducible first | exact HB.out | apply below_alloc | apply pw_below_drewN | apply below_drew1 | refine below_set ?_ GE102.out) | exact HB.out))))
        (case aL => have := LMc4.out; omega)
        intro v104 w9 ho hb hg hat
        rw [← Ny103.out] at ho
        have n0_ := Aside0.mk (Kd.R_after (Kd.R_apart_nil (by (with_reducible repeat (first | apply Kd.R_alloc | apply Kd.R_drewN | apply Kd.R_drew)); exact HO0.out)) hg hat)
        have n1_ := Aside0.mk (blk_grown (g := gb102) (o := .cells #[.int .i64 a1_0, .int .i64 a1_1, .slice A1_2 l1_2.length c1_2] 53 (0, 0)) (by (with_reducible repeat (first | refine blk_drewN ?_ _ | refine blk_drew ?_ | refine blk_alloc ?_ _)); exact BK102.out) hg (by simp [Value.ownBlock]))
        have n2_ := Aside0.mk (hb)
        have n3_ := Aside0.mk (Kept.of_grown (S := (fun k_ => P0_ k_)) hg (by repeat (first | (with_reducible first | exact HK.out | apply Kept.alloc | apply Kept.drewN | apply Kept.drew | refine Kept.setCell ?_ (.inr GW102.out) _) | exact HK.out)) (fun k_ e_ => by simp [Value.ownBlock] at e_))
        have n4_ := Aside0.mk (ho)
        clear HO0
        clear BK102
        clear HB
        clear HK
        have HO0 := n0_
        have BK102 := n1_
        have HB := n2_
        have HK := n3_
        have HO105 := n4_
        clear n0_ n1_ n2_ n3_ n4_
        clear ho hb hg hat
        refine hK.out _ _ ⟨(blk_cell BK102.out 0).trans rfl, (blk_cell BK102.out 1).trans rfl, (blk_cell BK102.out 2).trans rfl⟩ (fun hHeld => ?_)
        clear hK K
        refine norm_ (a' := ?_) ?_ ?_
        rotate_left
        · show Act.put _ (some 16) _ = _
          simp only [Act.put, List.setIfInBounds_toArray, List.set_cons_zero, List.set_cons_succ, i64_w, i32_w]
          rfl
        refine one_ (i := 5) (N := some 19) #[true, true, true, true, true, true, false] rfl rfl (by kernel_rfl) (by decide) (fun K hK => ?_)
        refine Kd.R_append_rows_step (Kd.int .i64) (w0 := w0) w0.heap.size (by rfl) (.tmp 16) (.tmp 18) 29 3 (.int .i64 0) 8 rfl Try.underlying29 info3 rfl (by decide) (by omega) v104 y103 l1_2 _ _ _ (fun k_ => (P0_ k_ ∨ w.heap.size ≤ k_) ∧ some k_ ≠ (.slice Ao10 l0.length co10 : Value).ownBlock) (fun _ => False) rfl rfl ?aO ?aR (fun _ _ h => h) (fun _ h => h.elim) ?aF ?aB ?aS ?aL ?_
        (case aR => exact Kd.C_kept_now HR1_2.out (by repeat (first | (with_reducible first | exact HK.out | apply Kept.alloc | apply Kept.drewN | apply Kept.drew | refine Kept.setCell ?_ (.inr GW102.out) _) | exact HK.out)))
        (case aB => exact (by repeat (first | (with_reducible first | exact HB.out | apply below_alloc | apply pw_below_drewN | apply below_drew1 | refine below_set ?_ GE102.out) | exact HB.out)))
        (case aF => exact (fun k_ hk => ⟨(.inr (Nat.le_trans (by first | exact HK.out.1 | exact (show Kept w _ (fun k_ => P0_ k_) from by repeat (first | (with_reducible first | exact HK.out | apply Kept.alloc | apply Kept.drewN | apply Kept.drew | refine Kept.setCell ?_ (.inr GW102.out) _) | exact HK.out)).1) hk)), Kd.fresh' (Kd.R_lt (by (with_reducible repeat (first | apply Kd.R_alloc | apply Kd.R_drewN | apply Kd.R_drew)); exact HO0.out)) k_ hk⟩))
        (case aO => exact (by (with_reducible repeat (first | apply Kd.R_alloc | apply Kd.R_drewN | apply Kd.R_drew)); exact HO105.out))
        (case aS => exact (below_size (by repeat (first | (with_reducible first | exact HB.out | apply below_alloc | apply pw_below_drewN | apply below_drew1 | refine below_set ?_ GE102.out) | exact HB.out))))
        (case aL => have := LMc5.out; omega)
        intro v107 w11 ho hb hg hat
        rw [← Ny106.out] at ho
        have n0_ := Aside0.mk (Kd.R_after (ok := (fun k_ => (P0_ k_ ∨ w.heap.size ≤ k_))) (by (with_reducible repeat (first | apply Kd.R_alloc | apply Kd.R_drewN | apply Kd.R_drew)); exact HO0.out) hg hat)
        have n1_ := Aside0.mk (blk_grown (g := gb102) (o := .cells #[.int .i64 a1_0, .int .i64 a1_1, .slice A1_2 l1_2.length c1_2] 53 (0, 0)) (by (with_reducible repeat (first | refine blk_drewN ?_ _ | refine blk_drew ?_ | refine blk_alloc ?_ _)); exact BK102.out) hg (Kd.R_ne HO105.out BK102.out (by decide)))
        have n2_ := Aside0.mk (hb)
        have n3_ := Aside0.mk (Kept.of_grown (S := (fun k_ => P0_ k_)) hg (by repeat (first | (with_reducible first | exact HK.out | apply Kept.alloc | apply Kept.drewN | apply Kept.drew | refine Kept.setCell ?_ (.inr GW102.out) _) | exact HK.out)) (fun k_ e_ => (HO105.out.1 k_ e_).1))
        have n4_ := Aside0.mk (ho)
        clear HO0
        clear BK102
        clear HB
        clear HK
        clear HO105
        have HO0 := n0_
        have BK102 := n1_
        have HB := n2_
        have HK := n3_
        have HO108 := n4_
        clear n0_ n1_ n2_ n3_ n4_
        clear ho hb hg hat
        refine hK.out _ _ ⟨(blk_cell BK102.out 0).trans rfl, (blk_cell BK102.out 1).trans rfl, (blk_cell BK102.out 2).trans rfl⟩ (fun hHeld => ?_)
        clear hK K
        refine norm_ (a' := ?_) ?_ ?_
        rotate_left
        · show Act.put _ (some 19) _ = _
          simp only [Act.put, List.setIfInBounds_toArray, List.set_cons_zero, List.set_cons_succ, i64_w, i32_w]
          rfl
        refine pure_ (i := 6) (N := some 4) (v := ?_) (a' := ?_) #[true, true, true, true, true, true, true] rfl rfl (by kernel_rfl) (fun _ _ _ h => h) (Or.inl ⟨by rfl, ?_⟩) ?_ ?_
        rotate_left
        · intro w'
          go_simp
          with_reducible rfl
        rotate_left
        · simp only [Act.put, List.setIfInBounds_toArray, List.set_cons_zero, List.set_cons_succ, i64_w, i32_w]
          rfl
        refine done_ (by kernel_rfl) ?_
        try go_wp2
        go_ret
        exact ⟨_, by first | rfl | (simp [errW_none, errW_some] <;> rfl) | (simp [*, errW_none, errW_some] <;> rfl), by (with_reducible repeat (first | apply Kd.R_alloc | apply Kd.R_drewN | apply Kd.R_drew)); exact Kd.R_mono HO108.out (fun _ hk => hk.1), by repeat (first | (with_reducible first | exact HB.out | apply below_alloc | apply pw_below_drewN | apply below_drew1 | refine below_set ?_ GE102.out) | exact HB.out), by repeat (first | (with_reducible first | exact HK.out | apply Kept.alloc | apply Kept.drewN | apply Kept.drew | refine Kept.setCell ?_ (.inr GW102.out) _) | exact HK.out)⟩
      · rw [if_neg c5] at H
        exact absurd H (by simp)
    · rw [if_neg c4] at H
      exact absurd H (by simp)
  · rw [if_neg c3] at H
    have c3b0 : (a1_0 == 0) = false := beq_eq_false_iff_ne.mpr c3
    have c3b1 : (a1_0 != 0) = true := bne_iff_ne.mpr c3
    by_cases c12 : a1_0 = 1
    · rw [if_pos c12] at H
      have c12b0 : (a1_0 == 1) = true := beq_iff_eq.mpr c12
      have c12b1 : (a1_0 != 1) = false := bne_eq_false_iff_eq.mpr c12
      clear c12
      by_cases c13 : ([] : List Int).length + l1_2.length < 17592186044416
      · rw [if_pos c13] at H
        have LMc13 := Aside0.mk c13
        clear c13
        obtain ⟨y109, hy109⟩ : ∃ y_ : List Int, y_ = (([] : List Int) ++ l1_2) := ⟨_, rfl⟩
        replace H : (if y109.length + l0.length < 17592186044416 then (some (y109 ++ l0)) else (none)) = some r := by first | (rw [hy109]; with_reducible exact H) | (have H2_ := (Option.bind_some _ _).symm.trans H; rw [hy109]; with_reducible exact H2_) | (have H2_ := (Option.bind_some _ _).symm.trans H; with_reducible exact H2_) | with_reducible exact H | (rw [hy109]; exact H) | exact H
        have Ny109 := Aside0.mk hy109
        clear hy109
        by_cases c14 : y109.length + l0.length < 17592186044416
        · rw [if_pos c14] at H
          have LMc14 := Aside0.mk c14
          clear c14
          obtain ⟨y112, hy112⟩ : ∃ y_ : List Int, y_ = (y109 ++ l0) := ⟨_, rfl⟩
          replace H : (some y112) = some r := by first | (rw [hy112]; with_reducible exact H) | (have H2_ := (Option.bind_some _ _).symm.trans H; rw [hy112]; with_reducible exact H2_) | (have H2_ := (Option.bind_some _ _).symm.trans H; with_reducible exact H2_) | with_reducible exact H | (rw [hy112]; exact H) | exact H
          have Ny112 := Aside0.mk hy112
          clear hy112
          obtain rfl := Option.some.inj H
          go_enter Try.func20, Try.ntmps20
          go_wp2_with (first | ((with_reducible refine gate_dst (N := 3) rfl ?_); refine box_event ?hg (N := 3) ?hd (cs := #[.int .i64 a1_0, .int .i64 a1_1, .slice A1_2 l1_2.length c1_2]) (t := 53) ?hr ?_; (case hd => rfl); (case hg => rfl); (case hr => first | (go_simp; done) | (go_simp; rfl)); intro gb102 hg w15 hbox hb; have n0_ := Aside0.mk (Kd.R_below (by (with_reducible repeat (first | apply Kd.R_alloc | apply Kd.R_drewN | apply Kd.R_drew)); exact HO0.out) hb); have n1_ := Aside0.mk (Kept.below (S := (fun k_ => P0_ k_)) (by repeat (first | (with_reducible first | exact HK.out | apply Kept.alloc | apply Kept.drewN | apply Kept.drew) | exact HK.out)) hb); have n2_ := Aside0.mk (below_step (by repeat (first | (with_reducible first | exact HB.out | apply below_alloc | apply pw_below_drewN | apply below_drew1) | exact HB.out)) hb); have n3_ := Aside0.mk (hbox); have n4_ := Aside0.mk ((by rw [hg]; exact (by first | exact HK.out.1 | exact (show Kept w _ (fun k_ => P0_ k_) from by repeat (first | (with_reducible first | exact HK.out | apply Kept.alloc | apply Kept.drewN | apply Kept.drew) | exact HK.out)).1) : w.heap.size ≤ gb102)); have n5_ := Aside0.mk ((by rw [hg]; exact (below_size (by repeat (first | (with_reducible first | exact HB.out | apply below_alloc | apply pw_below_drewN | apply below_drew1) | exact HB.out))) : w0.heap.size ≤ gb102)); clear HO0; clear HK; clear HB; have HO0 := n0_; have HK := n1_; have HB := n2_; have BK102 := n3_; have GW102 := n4_; have GE102 := n5_; clear n0_ n1_ n2_ n3_ n4_ n5_; clear hb hbox hg; have hcz16_0 : w15.cell? ⟨gb102, 0, none⟩ = some (.int .i64 a1_0) := (blk_cell BK102.out 0).trans rfl; have hcz16_1 : w15.cell? ⟨gb102, 1, none⟩ = some (.int .i64 a1_1) := (blk_cell BK102.out 1).trans rfl; have hcz16_2 : w15.cell? ⟨gb102, 2, none⟩ = some (.slice A1_2 l1_2.length c1_2) := (blk_cell BK102.out 2).trans rfl; have hfz16_0 := blk_frozen BK102.out 0; have hfz16_1 := blk_frozen BK102.out 1; have hfz16_2 := blk_frozen BK102.out 2) | ((with_reducible refine gate_builtin (b := .append) (xs := #[.tmp 22, .tmp 24]) rfl ?_); at_builtin; refine Kd.R_append_rows (Kd.int .i64) (w0 := w0) w0.heap.size rfl (.tmp 22) (.tmp 24) 29 3 (.int .i64 0) 8 rfl Try.underlying29 info3 rfl (by decide) (by omega) (.slice none 0 0) ([] : List Int) l1_2 _ _ _ (fun k_ => (P0_ k_ ∨ w.heap.size ≤ k_) ∧ some k_ ≠ (u9000_ : Value).ownBlock) (fun _ => False) rfl rfl ?aO ?aR (fun _ _ h => h) (fun _ h => h.elim) ?aF ?aB ?aS ?aL ?_; (case aR => exact Kd.C_kept_now HR1_2.out (by repeat (first | (with_reducible first | exact HK.out | apply Kept.alloc | apply Kept.drewN | apply Kept.drew | refine Kept.setCell ?_ (.inr GW102.out) _) | exact HK.out))); (case aB => exact (by repeat (first | (with_reducible first | exact HB.out | apply below_alloc | apply pw_below_drewN | apply below_drew1 | refine below_set ?_ GE102.out) | exact HB.out))); (case aF => exact (fun k_ hk => ⟨(.inr (Nat.le_trans (by first | exact HK.out.1 | exact (show Kept w _ (fun k_ => P0_ k_) from by repeat (first | (with_reducible first | exact HK.out | apply Kept.alloc | apply Kept.drewN | apply Kept.drew | refine Kept.setCell ?_ (.inr GW102.out) _) | exact HK.out)).1) hk)), Kd.fresh' (Kd.R_lt (by (with_reducible repeat (first | apply Kd.R_alloc | apply Kd.R_drewN | apply Kd.R_drew)); exact HO0.out)) k_ hk⟩)); (case aO => exact ((Kd.R_nil _ _ _ _ (fun k_ => (P0_ k_ ∨ w.heap.size ≤ k_) ∧ some k_ ≠ (u9000_ : Value).ownBlock)))); (case aS => exact (below_size (by repeat (first | (with_reducible first | exact HB.out | apply below_alloc | apply pw_below_drewN | apply below_drew1 | refine below_set ?_ GE102.out) | exact HB.out)))); (case aL => have := LMc13.out; omega); intro v110 w17 ho hb hg hat; rw [← Ny109.out] at ho; have n0_ := Aside0.mk (Kd.R_after (Kd.R_apart_nil (by (with_reducible repeat (first | apply Kd.R_alloc | apply Kd.R_drewN | apply Kd.R_drew)); exact HO0.out)) hg hat); have n1_ := Aside0.mk (blk_grown (g := gb102) (o := .cells #[.int .i64 a1_0, .int .i64 a1_1, .slice A1_2 l1_2.length c1_2] 53 (0, 0)) (by (with_reducible repeat (first | refine blk_drewN ?_ _ | refine blk_drew ?_ | refine blk_alloc ?_ _)); exact BK102.out) hg (by simp [Value.ownBlock])); have n2_ := Aside0.mk (hb); have n3_ := Aside0.mk (Kept.of_grown (S := (fun k_ => P0_ k_)) hg (by repeat (first | (with_reducible first | exact HK.out | apply Kept.alloc | apply Kept.drewN | apply Kept.drew | refine Kept.setCell ?_ (.inr GW102.out) _) | exact HK.out)) (fun k_ e_ => by simp [Value.ownBlock] at e_)); have n4_ := Aside0.mk (ho); clear HO0; clear BK102; clear HB; clear HK; have HO0 := n0_; have BK102 := n1_; have HB := n2_; have HK := n3_; have HO111 := n4_; clear n0_ n1_ n2_ n3_ n4_; clear ho hb hg hat; obtain ⟨Ao19, co19, eo19⟩ := Kd.R_slice HO0.out; subst eo19) | ((with_reducible refine gate_builtin (b := .append) (xs := #[.tmp 25, .tmp 26]) rfl ?_); at_builtin; refine Kd.R_append_rows (Kd.int .i64) (w0 := w0) w0.heap.size rfl (.tmp 25) (.tmp 26) 29 3 (.int .i64 0) 8 rfl Try.underlying29 info3 rfl (by decide) (by omega) v110 y109 l0 _ _ _ (fun k_ => (P0_ k_ ∨ w.heap.size ≤ k_) ∧ some k_ ≠ (.slice Ao19 l0.length co19 : Value).ownBlock) (fun _ => False) rfl rfl ?aO ?aR (fun _ _ h => h) (fun _ h => h.elim) ?aF ?aB ?aS ?aL ?_; (case aR => repeat (first | exact (Kd.R_reads' HO0.out).2.2 | (with_reducible refine Kd.C_alloc ?_ _) | (with_reducible refine Kd.C_drewN ?_ _) | (with_reducible refine Kd.C_drew ?_))); (case aB => exact (by repeat (first | (with_reducible first | exact HB.out | apply below_alloc | apply pw_below_drewN | apply below_drew1 | refine below_set ?_ GE102.out) | exact HB.out))); (case aF => exact (fun k_ hk => ⟨(.inr (Nat.le_trans (by first | exact HK.out.1 | exact (show Kept w _ (fun k_ => P0_ k_) from by repeat (first | (with_reducible first | exact HK.out | apply Kept.alloc | apply Kept.drewN | apply Kept.drew | refine Kept.setCell ?_ (.inr GW102.out) _) | exact HK.out)).1) hk)), Kd.fresh' (Kd.R_lt (by (with_reducible repeat (first | apply Kd.R_alloc | apply Kd.R_drewN | apply Kd.R_drew)); exact HO0.out)) k_ hk⟩)); (case aO => exact (by (with_reducible repeat (first | apply Kd.R_alloc | apply Kd.R_drewN | apply Kd.R_drew)); exact HO111.out)); (case aS => exact (below_size (by repeat (first | (with_reducible first | exact HB.out | apply below_alloc | apply pw_below_drewN | apply below_drew1 | refine below_set ?_ GE102.out) | exact HB.out)))); (case aL => have := LMc14.out; omega); intro v113 w18 ho hb hg hat; rw [← Ny112.out] at ho; have n0_ := Aside0.mk (Kd.R_after (ok := (fun k_ => (P0_ k_ ∨ w.heap.size ≤ k_))) (by (with_reducible repeat (first | apply Kd.R_alloc | apply Kd.R_drewN | apply Kd.R_drew)); exact HO0.out) hg hat); have n1_ := Aside0.mk (blk_grown (g := gb102) (o := .cells #[.int .i64 a1_0, .int .i64 a1_1, .slice A1_2 l1_2.length c1_2] 53 (0, 0)) (by (with_reducible repeat (first | refine blk_drewN ?_ _ | refine blk_drew ?_ | refine blk_alloc ?_ _)); exact BK102.out) hg (Kd.R_ne HO111.out BK102.out (by decide))); have n2_ := Aside0.mk (hb); have n3_ := Aside0.mk (Kept.of_grown (S := (fun k_ => P0_ k_)) hg (by repeat (first | (with_reducible first | exact HK.out | apply Kept.alloc | apply Kept.drewN | apply Kept.drew | refine Kept.setCell ?_ (.inr GW102.out) _) | exact HK.out)) (fun k_ e_ => (HO111.out.1 k_ e_).1)); have n4_ := Aside0.mk (ho); clear HO0; clear BK102; clear HB; clear HK; clear HO111; have HO0 := n0_; have BK102 := n1_; have HB := n2_; have HK := n3_; have HO114 := n4_; clear n0_ n1_ n2_ n3_ n4_; clear ho hb hg hat))
          go_ret
          exact ⟨_, by first | rfl | (simp [errW_none, errW_some] <;> rfl) | (simp [*, errW_none, errW_some] <;> rfl), by (with_reducible repeat (first | apply Kd.R_alloc | apply Kd.R_drewN | apply Kd.R_drew)); exact Kd.R_mono HO114.out (fun _ hk => hk.1), by repeat (first | (with_reducible first | exact HB.out | apply below_alloc | apply pw_below_drewN | apply below_drew1 | refine below_set ?_ GE102.out) | exact HB.out), by repeat (first | (with_reducible first | exact HK.out | apply Kept.alloc | apply Kept.drewN | apply Kept.drew | refine Kept.setCell ?_ (.inr GW102.out) _) | exact HK.out)⟩
        · rw [if_neg c14] at H
          exact absurd H (by simp)
      · rw [if_neg c13] at H
        exact absurd H (by simp)
    · rw [if_neg c12] at H
      have c12b0 : (a1_0 == 1) = false := beq_eq_false_iff_ne.mpr c12
      have c12b1 : (a1_0 != 1) = true := bne_iff_ne.mpr c12
      by_cases c20 : a1_0 = 3
      · rw [if_pos c20] at H
        have c20b0 : (a1_0 == 3) = true := beq_iff_eq.mpr c20
        have c20b1 : (a1_0 != 3) = false := bne_eq_false_iff_eq.mpr c20
        clear c20
        have H' := Aside0.mk H
        clear H
        go_enter Try.func20, Try.ntmps20
        go_wp2_with (first | ((with_reducible refine gate_dst (N := 3) rfl ?_); refine box_event ?hg (N := 3) ?hd (cs := #[.int .i64 a1_0, .int .i64 a1_1, .slice A1_2 l1_2.length c1_2]) (t := 53) ?hr ?_; (case hd => rfl); (case hg => rfl); (case hr => first | (go_simp; done) | (go_simp; rfl)); intro gb102 hg w21 hbox hb; have n0_ := Aside0.mk (Kd.R_below (by (with_reducible repeat (first | apply Kd.R_alloc | apply Kd.R_drewN | apply Kd.R_drew)); exact HO0.out) hb); have n1_ := Aside0.mk (Kept.below (S := (fun k_ => P0_ k_)) (by repeat (first | (with_reducible first | exact HK.out | apply Kept.alloc | apply Kept.drewN | apply Kept.drew) | exact HK.out)) hb); have n2_ := Aside0.mk (below_step (by repeat (first | (with_reducible first | exact HB.out | apply below_alloc | apply pw_below_drewN | apply below_drew1) | exact HB.out)) hb); have n3_ := Aside0.mk (hbox); have n4_ := Aside0.mk ((by rw [hg]; exact (by first | exact HK.out.1 | exact (show Kept w _ (fun k_ => P0_ k_) from by repeat (first | (with_reducible first | exact HK.out | apply Kept.alloc | apply Kept.drewN | apply Kept.drew) | exact HK.out)).1) : w.heap.size ≤ gb102)); have n5_ := Aside0.mk ((by rw [hg]; exact (below_size (by repeat (first | (with_reducible first | exact HB.out | apply below_alloc | apply pw_below_drewN | apply below_drew1) | exact HB.out))) : w0.heap.size ≤ gb102)); clear HO0; clear HK; clear HB; have HO0 := n0_; have HK := n1_; have HB := n2_; have BK102 := n3_; have GW102 := n4_; have GE102 := n5_; clear n0_ n1_ n2_ n3_ n4_ n5_; clear hb hbox hg; have hcz22_0 : w21.cell? ⟨gb102, 0, none⟩ = some (.int .i64 a1_0) := (blk_cell BK102.out 0).trans rfl; have hcz22_1 : w21.cell? ⟨gb102, 1, none⟩ = some (.int .i64 a1_1) := (blk_cell BK102.out 1).trans rfl; have hcz22_2 : w21.cell? ⟨gb102, 2, none⟩ = some (.slice A1_2 l1_2.length c1_2) := (blk_cell BK102.out 2).trans rfl; have hfz22_0 := blk_frozen BK102.out 0; have hfz22_1 := blk_frozen BK102.out 1; have hfz22_2 := blk_frozen BK102.out 2; obtain ⟨Ao23, co23, eo23⟩ := Kd.R_slice HO0.out; subst eo23))
        go_loopg [5, 32] k (fun kq v5 v32 w' => ∃ (x5_1 : List Int) (x32_1 : Int), v32 = .int .i64 x32_1 ∧ Aside0 (spec_TwSliced.l0 kq x5_1 l0 (l0.length : Int) x32_1 a1_0 a1_1 l1_2 = some r) ∧ Aside0 (kq ≤ k) ∧ Aside0 (Kd.R (Kd.int .i64) 3 w' w0.heap.size (fun k_ => (P0_ k_ ∨ w.heap.size ≤ k_) ∧ some k_ ≠ ((.slice Ao23 l0.length co23) : Value).ownBlock) v5 x5_1) ∧ Aside0 (Kd.R (Kd.int .i64) 3 w' w0.heap.size (fun k_ => (P0_ k_ ∨ w.heap.size ≤ k_) ∧ some k_ ≠ (v5 : Value).ownBlock) (.slice Ao23 l0.length co23) l0) ∧ Aside0 (w'.heap[gb102]? = some (.cells #[.int .i64 a1_0, .int .i64 a1_1, (.slice A1_2 l1_2.length c1_2)] 53 (0, 0))) ∧ Aside0 (Kept w w' (fun k_ => P0_ k_)) ∧ Aside0 (Below w0.heap.size w0 w'))
        case atStart => exact ⟨(([] : List Int)), (0), (by first | rfl | (simp; done) | (simp [*]; done)), H', ⟨Nat.le_refl _⟩, ⟨by first | exact Kd.R_nil _ _ _ _ _ | exact Kd.N_nil _ _ _ _ _ | exact Kd.V_nil _ _ _ _ _ | exact Kd.Q_nil _ _ _ _ _ | exact Kd.S_nil _ _ _ _ _⟩, ⟨by (with_reducible repeat (first | apply Kd.R_alloc | apply Kd.R_drewN | apply Kd.R_drew)); exact Kd.R_mono HO0.out (fun _ hk => ⟨hk, (by simp [Value.ownBlock])⟩)⟩, ⟨by (with_reducible repeat (first | refine blk_drewN ?_ _ | refine blk_drew ?_ | refine blk_alloc ?_ _)); exact BK102.out⟩, ⟨by repeat (first | (with_reducible first | exact HK.out | apply Kept.alloc | apply Kept.drewN | apply Kept.drew | refine Kept.setCell ?_ (.inr GW102.out) _) | exact HK.out)⟩, ⟨by repeat (first | (with_reducible first | exact HB.out | apply below_alloc | apply pw_below_drewN | apply below_drew1 | refine below_set ?_ GE102.out) | exact HB.out)⟩⟩
        case round =>
          clear H'
          try clear c1
          try clear c2
          try clear p2
          try clear c3
          try clear c3b0
          try clear c3b1
          try clear c4
          try clear c5
          try clear c12
          try clear c12b0
          try clear c12b1
          try clear c13
          try clear c14
          try clear c20
          try clear c20b0
          try clear c20b1
          try clear hcz16_0
          try clear hcz16_1
          try clear hcz16_2
          try clear hcz22_0
          try clear hcz22_1
          try clear hcz22_2
          try clear hcz7_0
          try clear hcz7_1
          try clear hcz7_2
          try clear hfz16_0
          try clear hfz16_1
          try clear hfz16_2
          try clear hfz22_0
          try clear hfz22_1
          try clear hfz22_2
          try clear hfz7_0
          try clear hfz7_1
          try clear hfz7_2
          obtain ⟨x5_1, x32_1, rfl, HA, HK1, HO_5, HO_30, BK102, HK, HB⟩ := hrel
          cases gk with
          | zero => exact absurd HA.out (by simp [spec_TwSliced.l0])
          | succ k1 =>
            have H := HA.out
            clear HA
            simp only [spec_TwSliced.l0] at H
            by_cases c24 : x32_1 < (l0.length : Int)
            · rw [if_pos c24] at H
              have c24b0 : decide (x32_1 < (l0.length : Int)) = true := decide_eq_true c24
              clear c24
              by_cases c25 : 0 ≤ x32_1
              · rw [if_pos c25] at H
                have c25b0 : decide (0 ≤ x32_1) = true := decide_eq_true c25
                clear c25
                by_cases c26 : x32_1 < (l0.length : Int)
                · rw [if_pos c26] at H
                  have c26b0 : decide (x32_1 < (l0.length : Int)) = true := decide_eq_true c26
                  clear c26
                  replace H := Option.bind_eq_some_iff.mp H
                  obtain ⟨t116, A270, H⟩ := H
                  replace H : (if t116 = true then (if x5_1.length < 17592186044416 then (spec_TwSliced.l0 k1 (x5_1 ++ [rd l0 x32_1]) l0 (l0.length : Int) (wrap64 (x32_1 + 1)) a1_0 a1_1 l1_2) else (none)) else (spec_TwSliced.l0 k1 x5_1 l0 (l0.length : Int) (wrap64 (x32_1 + 1)) a1_0 a1_1 l1_2)) = some r := H
                  have A27 := Aside0.mk A270
                  clear A270
                  by_cases c28 : t116 = true
                  · subst c28
                    have H1 : (if x5_1.length < 17592186044416 then (spec_TwSliced.l0 k1 (x5_1 ++ [rd l0 x32_1]) l0 (l0.length : Int) (wrap64 (x32_1 + 1)) a1_0 a1_1 l1_2) else (none)) = some r := by rw [if_pos rfl] at H; exact H
                    clear H
                    have H := H1
                    clear H1
                    by_cases c29 : x5_1.length < 17592186044416
                    · rw [if_pos c29] at H
                      have LMc29 := Aside0.mk c29
                      clear c29
                      obtain ⟨y117, hy117⟩ : ∃ y_ : List Int, y_ = (x5_1 ++ [rd l0 x32_1]) := ⟨_, rfl⟩
                      replace H : (spec_TwSliced.l0 k1 y117 l0 (l0.length : Int) (wrap64 (x32_1 + 1)) a1_0 a1_1 l1_2) = some r := by first | (rw [hy117]; with_reducible exact H) | (have H2_ := (Option.bind_some _ _).symm.trans H; rw [hy117]; with_reducible exact H2_) | (have H2_ := (Option.bind_some _ _).symm.trans H; with_reducible exact H2_) | with_reducible exact H | (rw [hy117]; exact H) | exact H
                      have Ny117 := Aside0.mk hy117
                      clear hy117
                      have H' := Aside0.mk H
                      clear H
                      have p115 : 0 ≤ (x32_1 : Int) := of_decide_eq_true (by first | (with_reducible assumption) | assumption)
                      have q115 : x32_1 < (l0.length : Int) := of_decide_eq_true (by first | (with_reducible assumption) | assumption)
                      obtain ⟨ad115, e115, hx115_0⟩ := Kd.at_int (Kd.R_reads' HO_30.out).2.2 x32_1 p115 q115
                      cases e115
                      replace p115 := eq_true p115
                      replace q115 := eq_true q115
                      have hcz30_0 : wr.cell? ⟨gb102, 0, none⟩ = some (.int .i64 a1_0) := (blk_cell BK102.out 0).trans rfl
                      have hcz30_1 : wr.cell? ⟨gb102, 1, none⟩ = some (.int .i64 a1_1) := (blk_cell BK102.out 1).trans rfl
                      have hcz30_2 : wr.cell? ⟨gb102, 2, none⟩ = some (.slice A1_2 l1_2.length c1_2) := (blk_cell BK102.out 2).trans rfl
                      have hfz30_0 := blk_frozen BK102.out 0
                      have hfz30_1 := blk_frozen BK102.out 1
                      have hfz30_2 := blk_frozen BK102.out 2
                      go_wp2_with (first | ((with_reducible refine gate_callee (f := 9) rfl ?_); refine goesL_ (some 39) rfl rfl Try.func9 (by kernel_rfl) rfl #[.slice A1_2 l1_2.length c1_2, .int .i64 (rd l0 x32_1)] rfl (by (try simp only [List.map_toArray, List.map_cons, List.map_nil]); first | done | rfl | (simp only [List.length_drop, List.length_take]; rfl)) ?_; (with_reducible refine (spec_TwAmong.calls k1 _ _ l1_2 (rd l0 x32_1) true _ ?side1 ?side2 A27.out).mono ?_); (case side1 => exact Kd.C_kept_now HR1_2.out (by repeat (first | (with_reducible first | exact HK.out | apply Kept.alloc | apply Kept.drewN | apply Kept.drew | refine Kept.setCell ?_ (.inr GW102.out) _) | exact HK.out))); (case side2 => exact HC1_2.out); rintro e w' ⟨rfl, ⟨nd, rfl⟩⟩; refine ⟨_, rfl, ?_⟩) | ((with_reducible refine gate_builtin (b := .append) (xs := #[.tmp 40, .tmp 42]) rfl ?_); at_builtin; refine Kd.R_append (Kd.int .i64) (w0 := w0) w0.heap.size rfl (.tmp 40) (.tmp 42) 29 3 (.int .i64 0) 8 rfl Try.underlying29 info3 rfl (by decide) (by omega) u5 x5_1 (rd l0 x32_1) [.int .i64 (rd l0 x32_1)] (fun k_ => (P0_ k_ ∨ w.heap.size ≤ k_) ∧ some k_ ≠ (.slice (some ad115) l0.length co23 : Value).ownBlock) (fun _ => False) rfl rfl ?aP (fun _ hk => hk.elim) ?aF ?aO ?aB ?aS ?aL ?_; (case aP => exact rfl); (case aB => exact (by repeat (first | (with_reducible first | exact HB.out | apply below_alloc | apply pw_below_drewN | apply below_drew1 | refine below_set ?_ GE102.out) | exact HB.out))); (case aF => exact (fun k_ hk => ⟨(.inr (Nat.le_trans (by first | exact HK.out.1 | exact (show Kept w _ (fun k_ => P0_ k_) from by repeat (first | (with_reducible first | exact HK.out | apply Kept.alloc | apply Kept.drewN | apply Kept.drew | refine Kept.setCell ?_ (.inr GW102.out) _) | exact HK.out)).1) hk)), Kd.fresh' (Kd.R_lt (by (with_reducible repeat (first | apply Kd.R_alloc | apply Kd.R_drewN | apply Kd.R_drew)); exact HO_30.out)) k_ hk⟩)); (case aO => exact (by (with_reducible repeat (first | apply Kd.R_alloc | apply Kd.R_drewN | apply Kd.R_drew)); exact HO_5.out)); (case aS => exact (below_size (by repeat (first | (with_reducible first | exact HB.out | apply below_alloc | apply pw_below_drewN | apply below_drew1 | refine below_set ?_ GE102.out) | exact HB.out)))); (case aL => have := LMc29.out; omega); intro v118 w31 ho hb hg hat; rw [← Ny117.out] at ho; have n0_ := Aside0.mk (Kd.R_after (ok := (fun k_ => (P0_ k_ ∨ w.heap.size ≤ k_))) (by (with_reducible repeat (first | apply Kd.R_alloc | apply Kd.R_drewN | apply Kd.R_drew)); exact HO_30.out) hg hat); have n1_ := Aside0.mk (blk_grown (g := gb102) (o := .cells #[.int .i64 a1_0, .int .i64 a1_1, .slice A1_2 l1_2.length c1_2] 53 (0, 0)) (by (with_reducible repeat (first | refine blk_drewN ?_ _ | refine blk_drew ?_ | refine blk_alloc ?_ _)); exact BK102.out) hg (Kd.R_ne HO_5.out BK102.out (by decide))); have n2_ := Aside0.mk (hb); have n3_ := Aside0.mk (Kept.of_grown (S := (fun k_ => P0_ k_)) hg (by repeat (first | (with_reducible first | exact HK.out | apply Kept.alloc | apply Kept.drewN | apply Kept.drew | refine Kept.setCell ?_ (.inr GW102.out) _) | exact HK.out)) (fun k_ e_ => (HO_5.out.1 k_ e_).1)); have n4_ := Aside0.mk (ho); clear HO_30; clear BK102; clear HB; clear HK; clear HO_5; have HO_30 := n0_; have BK102 := n1_; have HB := n2_; have HK := n3_; have HO119 := n4_; clear n0_ n1_ n2_ n3_ n4_; clear ho hb hg hat))
                      go_roundg k1
                      case measure => have := HK1.out; omega
                      case rel => exact ⟨(y117), (wrap64 (x32_1 + 1)), (by first | rfl | (simp; done) | (simp [*]; done)), H', ⟨by have := HK1.out; omega⟩, ⟨by (with_reducible repeat (first | apply Kd.R_alloc | apply Kd.R_drewN | apply Kd.R_drew)); exact HO119.out⟩, ⟨by (with_reducible repeat (first | apply Kd.R_alloc | apply Kd.R_drewN | apply Kd.R_drew)); exact HO_30.out⟩, ⟨by (with_reducible repeat (first | refine blk_drewN ?_ _ | refine blk_drew ?_ | refine blk_alloc ?_ _)); exact BK102.out⟩, ⟨by repeat (first | (with_reducible first | exact HK.out | apply Kept.alloc | apply Kept.drewN | apply Kept.drew | refine Kept.setCell ?_ (.inr GW102.out) _) | exact HK.out)⟩, ⟨by repeat (first | (with_reducible first | exact HB.out | apply below_alloc | apply pw_below_drewN | apply below_drew1 | refine below_set ?_ GE102.out) | exact HB.out)⟩⟩
                    · rw [if_neg c29] at H
                      exact absurd H (by simp)
                  · replace c28 := Bool.eq_false_iff.mpr c28
                    subst c28
                    have H1 : (spec_TwSliced.l0 k1 x5_1 l0 (l0.length : Int) (wrap64 (x32_1 + 1)) a1_0 a1_1 l1_2) = some r := by rw [if_neg (show ¬ (false = true) by decide)] at H; exact H
                    clear H
                    have H := H1
                    clear H1
                    have H' := Aside0.mk H
                    clear H
                    have p115 : 0 ≤ (x32_1 : Int) := of_decide_eq_true (by first | (with_reducible assumption) | assumption)
                    have q115 : x32_1 < (l0.length : Int) := of_decide_eq_true (by first | (with_reducible assumption) | assumption)
                    obtain ⟨ad115, e115, hx115_0⟩ := Kd.at_int (Kd.R_reads' HO_30.out).2.2 x32_1 p115 q115
                    cases e115
                    replace p115 := eq_true p115
                    replace q115 := eq_true q115
                    have hcz32_0 : wr.cell? ⟨gb102, 0, none⟩ = some (.int .i64 a1_0) := (blk_cell BK102.out 0).trans rfl
                    have hcz32_1 : wr.cell? ⟨gb102, 1, none⟩ = some (.int .i64 a1_1) := (blk_cell BK102.out 1).trans rfl
                    have hcz32_2 : wr.cell? ⟨gb102, 2, none⟩ = some (.slice A1_2 l1_2.length c1_2) := (blk_cell BK102.out 2).trans rfl
                    have hfz32_0 := blk_frozen BK102.out 0
                    have hfz32_1 := blk_frozen BK102.out 1
                    have hfz32_2 := blk_frozen BK102.out 2
                    go_wp2_with (first | ((with_reducible refine gate_callee (f := 9) rfl ?_); refine goesL_ (some 39) rfl rfl Try.func9 (by kernel_rfl) rfl #[.slice A1_2 l1_2.length c1_2, .int .i64 (rd l0 x32_1)] rfl (by (try simp only [List.map_toArray, List.map_cons, List.map_nil]); first | done | rfl | (simp only [List.length_drop, List.length_take]; rfl)) ?_; (with_reducible refine (spec_TwAmong.calls k1 _ _ l1_2 (rd l0 x32_1) false _ ?side1 ?side2 A27.out).mono ?_); (case side1 => exact Kd.C_kept_now HR1_2.out (by repeat (first | (with_reducible first | exact HK.out | apply Kept.alloc | apply Kept.drewN | apply Kept.drew | refine Kept.setCell ?_ (.inr GW102.out) _) | exact HK.out))); (case side2 => exact HC1_2.out); rintro e w' ⟨rfl, ⟨nd, rfl⟩⟩; refine ⟨_, rfl, ?_⟩))
                    go_roundg k1
                    case measure => have := HK1.out; omega
                    case rel => exact ⟨(x5_1), (wrap64 (x32_1 + 1)), (by first | rfl | (simp; done) | (simp [*]; done)), H', ⟨by have := HK1.out; omega⟩, ⟨by (with_reducible repeat (first | apply Kd.R_alloc | apply Kd.R_drewN | apply Kd.R_drew)); exact HO_5.out⟩, ⟨by (with_reducible repeat (first | apply Kd.R_alloc | apply Kd.R_drewN | apply Kd.R_drew)); exact HO_30.out⟩, ⟨by (with_reducible repeat (first | refine blk_drewN ?_ _ | refine blk_drew ?_ | refine blk_alloc ?_ _)); exact BK102.out⟩, ⟨by repeat (first | (with_reducible first | exact HK.out | apply Kept.alloc | apply Kept.drewN | apply Kept.drew | refine Kept.setCell ?_ (.inr GW102.out) _) | exact HK.out)⟩, ⟨by repeat (first | (with_reducible first | exact HB.out | apply below_alloc | apply pw_below_drewN | apply below_drew1 | refine below_set ?_ GE102.out) | exact HB.out)⟩⟩
                · rw [if_neg c26] at H
                  exact absurd H (by simp)
              · rw [if_neg c25] at H
                exact absurd H (by simp)
            · rw [if_neg c24] at H
              have c24b0 : decide (x32_1 < (l0.length : Int)) = false := decide_eq_false c24
              clear c24
              obtain rfl := Option.some.inj H
              go_wp2
              go_ret
              exact ⟨_, by first | rfl | (simp [errW_none, errW_some] <;> rfl) | (simp [*, errW_none, errW_some] <;> rfl), by (with_reducible repeat (first | apply Kd.R_alloc | apply Kd.R_drewN | apply Kd.R_drew)); exact Kd.R_mono HO_5.out (fun _ hk => hk.1), by repeat (first | (with_reducible first | exact HB.out | apply below_alloc | apply pw_below_drewN | apply below_drew1 | refine below_set ?_ GE102.out) | exact HB.out), by repeat (first | (with_reducible first | exact HK.out | apply Kept.alloc | apply Kept.drewN | apply Kept.drew | refine Kept.setCell ?_ (.inr GW102.out) _) | exact HK.out)⟩
      · rw [if_neg c20] at H
        have c20b0 : (a1_0 == 3) = false := beq_eq_false_iff_ne.mpr c20
        have c20b1 : (a1_0 != 3) = true := bne_iff_ne.mpr c20
        by_cases c33 : a1_0 = 4
        · rw [if_pos c33] at H
          have c33b0 : (a1_0 == 4) = true := beq_iff_eq.mpr c33
          have c33b1 : (a1_0 != 4) = false := bne_eq_false_iff_eq.mpr c33
          clear c33
          have H' := Aside0.mk H
          clear H
          go_enter Try.func20, Try.ntmps20
          go_wp2_with (first | ((with_reducible refine gate_dst (N := 3) rfl ?_); refine box_event ?hg (N := 3) ?hd (cs := #[.int .i64 a1_0, .int .i64 a1_1, .slice A1_2 l1_2.length c1_2]) (t := 53) ?hr ?_; (case hd => rfl); (case hg => rfl); (case hr => first | (go_simp; done) | (go_simp; rfl)); intro gb102 hg w34 hbox hb; have n0_ := Aside0.mk (Kd.R_below (by (with_reducible repeat (first | apply Kd.R_alloc | apply Kd.R_drewN | apply Kd.R_drew)); exact HO0.out) hb); have n1_ := Aside0.mk (Kept.below (S := (fun k_ => P0_ k_)) (by repeat (first | (with_reducible first | exact HK.out | apply Kept.alloc | apply Kept.drewN | apply Kept.drew) | exact HK.out)) hb); have n2_ := Aside0.mk (below_step (by repeat (first | (with_reducible first | exact HB.out | apply below_alloc | apply pw_below_drewN | apply below_drew1) | exact HB.out)) hb); have n3_ := Aside0.mk (hbox); have n4_ := Aside0.mk ((by rw [hg]; exact (by first | exact HK.out.1 | exact (show Kept w _ (fun k_ => P0_ k_) from by repeat (first | (with_reducible first | exact HK.out | apply Kept.alloc | apply Kept.drewN | apply Kept.drew) | exact HK.out)).1) : w.heap.size ≤ gb102)); have n5_ := Aside0.mk ((by rw [hg]; exact (below_size (by repeat (first | (with_reducible first | exact HB.out | apply below_alloc | apply pw_below_drewN | apply below_drew1) | exact HB.out))) : w0.heap.size ≤ gb102)); clear HO0; clear HK; clear HB; have HO0 := n0_; have HK := n1_; have HB := n2_; have BK102 := n3_; have GW102 := n4_; have GE102 := n5_; clear n0_ n1_ n2_ n3_ n4_ n5_; clear hb hbox hg; have hcz35_0 : w34.cell? ⟨gb102, 0, none⟩ = some (.int .i64 a1_0) := (blk_cell BK102.out 0).trans rfl; have hcz35_1 : w34.cell? ⟨gb102, 1, none⟩ = some (.int .i64 a1_1) := (blk_cell BK102.out 1).trans rfl; have hcz35_2 : w34.cell? ⟨gb102, 2, none⟩ = some (.slice A1_2 l1_2.length c1_2) := (blk_cell BK102.out 2).trans rfl; have hfz35_0 := blk_frozen BK102.out 0; have hfz35_1 := blk_frozen BK102.out 1; have hfz35_2 := blk_frozen BK102.out 2; obtain ⟨Ao36, co36, eo36⟩ := Kd.R_slice HO0.out; subst eo36))
          go_loopg [5, 50] k (fun kq v5 v50 w' => ∃ (x5_1 : List Int) (x50_1 : Int), v50 = .int .i64 x50_1 ∧ Aside0 (spec_TwSliced.l1 kq x5_1 l0 (l0.length : Int) x50_1 a1_0 a1_1 l1_2 = some r) ∧ Aside0 (kq ≤ k) ∧ Aside0 (Kd.R (Kd.int .i64) 3 w' w0.heap.size (fun k_ => (P0_ k_ ∨ w.heap.size ≤ k_) ∧ some k_ ≠ ((.slice Ao36 l0.length co36) : Value).ownBlock) v5 x5_1) ∧ Aside0 (Kd.R (Kd.int .i64) 3 w' w0.heap.size (fun k_ => (P0_ k_ ∨ w.heap.size ≤ k_) ∧ some k_ ≠ (v5 : Value).ownBlock) (.slice Ao36 l0.length co36) l0) ∧ Aside0 (w'.heap[gb102]? = some (.cells #[.int .i64 a1_0, .int .i64 a1_1, (.slice A1_2 l1_2.length c1_2)] 53 (0, 0))) ∧ Aside0 (Kept w w' (fun k_ => P0_ k_)) ∧ Aside0 (Below w0.heap.size w0 w'))
          case atStart => exact ⟨(([] : List Int)), (0), (by first | rfl | (simp; done) | (simp [*]; done)), H', ⟨Nat.le_refl _⟩, ⟨by first | exact Kd.R_nil _ _ _ _ _ | exact Kd.N_nil _ _ _ _ _ | exact Kd.V_nil _ _ _ _ _ | exact Kd.Q_nil _ _ _ _ _ | exact Kd.S_nil _ _ _ _ _⟩, ⟨by (with_reducible repeat (first | apply Kd.R_alloc | apply Kd.R_drewN | apply Kd.R_drew)); exact Kd.R_mono HO0.out (fun _ hk => ⟨hk, (by simp [Value.ownBlock])⟩)⟩, ⟨by (with_reducible repeat (first | refine blk_drewN ?_ _ | refine blk_drew ?_ | refine blk_alloc ?_ _)); exact BK102.out⟩, ⟨by repeat (first | (with_reducible first | exact HK.out | apply Kept.alloc | apply Kept.drewN | apply Kept.drew | refine Kept.setCell ?_ (.inr GW102.out) _) | exact HK.out)⟩, ⟨by repeat (first | (with_reducible first | exact HB.out | apply below_alloc | apply pw_below_drewN | apply below_drew1 | refine below_set ?_ GE102.out) | exact HB.out)⟩⟩
          case round =>
            clear H'
            try clear c1
            try clear p1
            try clear q1
            try clear hx1
            try clear c2
            try clear p2
            try clear c3
            try clear c3b0
            try clear c3b1
            try clear c4
            try clear c5
            try clear p6
            try clear c9
            try clear p11
            try clear q11
            try clear hx11
            try clear c12
            try clear c12b0
            try clear c12b1
            try clear c13
            try clear c14
            try clear c20
            try clear c20b0
            try clear c20b1
            try clear c24
            try clear c24b0
            try clear c25
            try clear c25b0
            try clear c26
            try clear c26b0
            try clear c28
            try clear c29
            try clear c33
            try clear c33b0
            try clear c33b1
            try clear hcz16_0
            try clear hcz16_1
            try clear hcz16_2
            try clear hcz22_0
            try clear hcz22_1
            try clear hcz22_2
            try clear hcz30_0
            try clear hcz30_1
            try clear hcz30_2
            try clear hcz32_0
            try clear hcz32_1
            try clear hcz32_2
            try clear hcz35_0
            try clear hcz35_1
            try clear hcz35_2
            try clear hcz7_0
            try clear hcz7_1
            try clear hcz7_2
            try clear hfz16_0
            try clear hfz16_1
            try clear hfz16_2
            try clear hfz22_0
            try clear hfz22_1
            try clear hfz22_2
            try clear hfz30_0
            try clear hfz30_1
            try clear hfz30_2
            try clear hfz32_0
            try clear hfz32_1
            try clear hfz32_2
            try clear hfz35_0
            try clear hfz35_1
            try clear hfz35_2
            try clear hfz7_0
            try clear hfz7_1
            try clear hfz7_2
            try clear hx115_0
            try clear p115
            try clear p2
            try clear q115
            obtain ⟨x5_1, x50_1, rfl, HA, HK1, HO_5, HO_48, BK102, HK, HB⟩ := hrel
            cases gk with
            | zero => exact absurd HA.out (by simp [spec_TwSliced.l1])
            | succ k1 =>
              have H := HA.out
              clear HA
              simp only [spec_TwSliced.l1] at H
              by_cases c37 : x50_1 < (l0.length : Int)
              · rw [if_pos c37] at H
                have c37b0 : decide (x50_1 < (l0.length : Int)) = true := decide_eq_true c37
                clear c37
                by_cases c38 : 0 ≤ x50_1
                · rw [if_pos c38] at H
                  have c38b0 : decide (0 ≤ x50_1) = true := decide_eq_true c38
                  clear c38
                  by_cases c39 : x50_1 < (l0.length : Int)
                  · rw [if_pos c39] at H
                    have c39b0 : decide (x50_1 < (l0.length : Int)) = true := decide_eq_true c39
                    clear c39
                    by_cases c40 : x5_1.length < 17592186044416
                    · rw [if_pos c40] at H
                      have LMc40 := Aside0.mk c40
                      clear c40
                      obtain ⟨y121, hy121⟩ : ∃ y_ : List Int, y_ = (x5_1 ++ [wrap64 ((rd l0 x50_1) + a1_1)]) := ⟨_, rfl⟩
                      replace H : (spec_TwSliced.l1 k1 y121 l0 (l0.length : Int) (wrap64 (x50_1 + 1)) a1_0 a1_1 l1_2) = some r := by first | (rw [hy121]; with_reducible exact H) | (have H2_ := (Option.bind_some _ _).symm.trans H; rw [hy121]; with_reducible exact H2_) | (have H2_ := (Option.bind_some _ _).symm.trans H; with_reducible exact H2_) | with_reducible exact H | (rw [hy121]; exact H) | exact H
                      have Ny121 := Aside0.mk hy121
                      clear hy121
                      have H' := Aside0.mk H
                      clear H
                      have p120 : 0 ≤ (x50_1 : Int) := of_decide_eq_true (by first | (with_reducible assumption) | assumption)
                      have q120 : x50_1 < (l0.length : Int) := of_decide_eq_true (by first | (with_reducible assumption) | assumption)
                      obtain ⟨ad120, e120, hx120_0⟩ := Kd.at_int (Kd.R_reads' HO_48.out).2.2 x50_1 p120 q120
                      cases e120
                      replace p120 := eq_true p120
                      replace q120 := eq_true q120
                      have hcz41_0 : wr.cell? ⟨gb102, 0, none⟩ = some (.int .i64 a1_0) := (blk_cell BK102.out 0).trans rfl
                      have hcz41_1 : wr.cell? ⟨gb102, 1, none⟩ = some (.int .i64 a1_1) := (blk_cell BK102.out 1).trans rfl
                      have hcz41_2 : wr.cell? ⟨gb102, 2, none⟩ = some (.slice A1_2 l1_2.length c1_2) := (blk_cell BK102.out 2).trans rfl
                      have hfz41_0 := blk_frozen BK102.out 0
                      have hfz41_1 := blk_frozen BK102.out 1
                      have hfz41_2 := blk_frozen BK102.out 2
                      go_wp2_with (first | ((with_reducible refine gate_builtin (b := .append) (xs := #[.tmp 54, .tmp 59]) rfl ?_); at_builtin; refine Kd.R_append (Kd.int .i64) (w0 := w0) w0.heap.size rfl (.tmp 54) (.tmp 59) 29 3 (.int .i64 0) 8 rfl Try.underlying29 info3 rfl (by decide) (by omega) u5 x5_1 (wrap64 ((rd l0 x50_1) + a1_1)) [.int .i64 (wrap64 ((rd l0 x50_1) + a1_1))] (fun k_ => (P0_ k_ ∨ w.heap.size ≤ k_) ∧ some k_ ≠ (.slice (some ad120) l0.length co36 : Value).ownBlock) (fun _ => False) rfl rfl ?aP (fun _ hk => hk.elim) ?aF ?aO ?aB ?aS ?aL ?_; (case aP => exact rfl); (case aB => exact (by repeat (first | (with_reducible first | exact HB.out | apply below_alloc | apply pw_below_drewN | apply below_drew1 | refine below_set ?_ GE102.out) | exact HB.out))); (case aF => exact (fun k_ hk => ⟨(.inr (Nat.le_trans (by first | exact HK.out.1 | exact (show Kept w _ (fun k_ => P0_ k_) from by repeat (first | (with_reducible first | exact HK.out | apply Kept.alloc | apply Kept.drewN | apply Kept.drew | refine Kept.setCell ?_ (.inr GW102.out) _) | exact HK.out)).1) hk)), Kd.fresh' (Kd.R_lt (by (with_reducible repeat (first | apply Kd.R_alloc | apply Kd.R_drewN | apply Kd.R_drew)); exact HO_48.out)) k_ hk⟩)); (case aO => exact (by (with_reducible repeat (first | apply Kd.R_alloc | apply Kd.R_drewN | apply Kd.R_drew)); exact HO_5.out)); (case aS => exact (below_size (by repeat (first | (with_reducible first | exact HB.out | apply below_alloc | apply pw_below_drewN | apply below_drew1 | refine below_set ?_ GE102.out) | exact HB.out)))); (case aL => have := LMc40.out; omega); intro v122 w42 ho hb hg hat; rw [← Ny121.out] at ho; have n0_ := Aside0.mk (Kd.R_after (ok := (fun k_ => (P0_ k_ ∨ w.heap.size ≤ k_))) (by (with_reducible repeat (first | apply Kd.R_alloc | apply Kd.R_drewN | apply Kd.R_drew)); exact HO_48.out) hg hat); have n1_ := Aside0.mk (blk_grown (g := gb102) (o := .cells #[.int .i64 a1_0, .int .i64 a1_1, .slice A1_2 l1_2.length c1_2] 53 (0, 0)) (by (with_reducible repeat (first | refine blk_drewN ?_ _ | refine blk_drew ?_ | refine blk_alloc ?_ _)); exact BK102.out) hg (Kd.R_ne HO_5.out BK102.out (by decide))); have n2_ := Aside0.mk (hb); have n3_ := Aside0.mk (Kept.of_grown (S := (fun k_ => P0_ k_)) hg (by repeat (first | (with_reducible first | exact HK.out | apply Kept.alloc | apply Kept.drewN | apply Kept.drew | refine Kept.setCell ?_ (.inr GW102.out) _) | exact HK.out)) (fun k_ e_ => (HO_5.out.1 k_ e_).1)); have n4_ := Aside0.mk (ho); clear HO_48; clear BK102; clear HB; clear HK; clear HO_5; have HO_48 := n0_; have BK102 := n1_; have HB := n2_; have HK := n3_; have HO123 := n4_; clear n0_ n1_ n2_ n3_ n4_; clear ho hb hg hat))
                      go_roundg k1
                      case measure => have := HK1.out; omega
                      case rel => exact ⟨(y121), (wrap64 (x50_1 + 1)), (by first | rfl | (simp; done) | (simp [*]; done)), H', ⟨by have := HK1.out; omega⟩, ⟨by (with_reducible repeat (first | apply Kd.R_alloc | apply Kd.R_drewN | apply Kd.R_drew)); exact HO123.out⟩, ⟨by (with_reducible repeat (first | apply Kd.R_alloc | apply Kd.R_drewN | apply Kd.R_drew)); exact HO_48.out⟩, ⟨by (with_reducible repeat (first | refine blk_drewN ?_ _ | refine blk_drew ?_ | refine blk_alloc ?_ _)); exact BK102.out⟩, ⟨by repeat (first | (with_reducible first | exact HK.out | apply Kept.alloc | apply Kept.drewN | apply Kept.drew | refine Kept.setCell ?_ (.inr GW102.out) _) | exact HK.out)⟩, ⟨by repeat (first | (with_reducible first | exact HB.out | apply below_alloc | apply pw_below_drewN | apply below_drew1 | refine below_set ?_ GE102.out) | exact HB.out)⟩⟩
                    · rw [if_neg c40] at H
                      exact absurd H (by simp)
                  · rw [if_neg c39] at H
                    exact absurd H (by simp)
                · rw [if_neg c38] at H
                  exact absurd H (by simp)
              · rw [if_neg c37] at H
                have c37b0 : decide (x50_1 < (l0.length : Int)) = false := decide_eq_false c37
                clear c37
                obtain rfl := Option.some.inj H
                go_wp2
                go_ret
                exact ⟨_, by first | rfl | (simp [errW_none, errW_some] <;> rfl) | (simp [*, errW_none, errW_some] <;> rfl), by (with_reducible repeat (first | apply Kd.R_alloc | apply Kd.R_drewN | apply Kd.R_drew)); exact Kd.R_mono HO_5.out (fun _ hk => hk.1), by repeat (first | (with_reducible first | exact HB.out | apply below_alloc | apply pw_below_drewN | apply below_drew1 | refine below_set ?_ GE102.out) | exact HB.out), by repeat (first | (with_reducible first | exact HK.out | apply Kept.alloc | apply Kept.drewN | apply Kept.drew | refine Kept.setCell ?_ (.inr GW102.out) _) | exact HK.out)⟩
        · rw [if_neg c33] at H
          have c33b0 : (a1_0 == 4) = false := beq_eq_false_iff_ne.mpr c33
          have c33b1 : (a1_0 != 4) = true := bne_iff_ne.mpr c33
          obtain rfl := Option.some.inj H
          go_enter Try.func20, Try.ntmps20
          go_wp2_with (first | ((with_reducible refine gate_dst (N := 3) rfl ?_); refine box_event ?hg (N := 3) ?hd (cs := #[.int .i64 a1_0, .int .i64 a1_1, .slice A1_2 l1_2.length c1_2]) (t := 53) ?hr ?_; (case hd => rfl); (case hg => rfl); (case hr => first | (go_simp; done) | (go_simp; rfl)); intro gb102 hg w43 hbox hb; have n0_ := Aside0.mk (Kd.R_below (by (with_reducible repeat (first | apply Kd.R_alloc | apply Kd.R_drewN | apply Kd.R_drew)); exact HO0.out) hb); have n1_ := Aside0.mk (Kept.below (S := (fun k_ => P0_ k_)) (by repeat (first | (with_reducible first | exact HK.out | apply Kept.alloc | apply Kept.drewN | apply Kept.drew) | exact HK.out)) hb); have n2_ := Aside0.mk (below_step (by repeat (first | (with_reducible first | exact HB.out | apply below_alloc | apply pw_below_drewN | apply below_drew1) | exact HB.out)) hb); have n3_ := Aside0.mk (hbox); have n4_ := Aside0.mk ((by rw [hg]; exact (by first | exact HK.out.1 | exact (show Kept w _ (fun k_ => P0_ k_) from by repeat (first | (with_reducible first | exact HK.out | apply Kept.alloc | apply Kept.drewN | apply Kept.drew) | exact HK.out)).1) : w.heap.size ≤ gb102)); have n5_ := Aside0.mk ((by rw [hg]; exact (below_size (by repeat (first | (with_reducible first | exact HB.out | apply below_alloc | apply pw_below_drewN | apply below_drew1) | exact HB.out))) : w0.heap.size ≤ gb102)); clear HO0; clear HK; clear HB; have HO0 := n0_; have HK := n1_; have HB := n2_; have BK102 := n3_; have GW102 := n4_; have GE102 := n5_; clear n0_ n1_ n2_ n3_ n4_ n5_; clear hb hbox hg; have hcz44_0 : w43.cell? ⟨gb102, 0, none⟩ = some (.int .i64 a1_0) := (blk_cell BK102.out 0).trans rfl; have hcz44_1 : w43.cell? ⟨gb102, 1, none⟩ = some (.int .i64 a1_1) := (blk_cell BK102.out 1).trans rfl; have hcz44_2 : w43.cell? ⟨gb102, 2, none⟩ = some (.slice A1_2 l1_2.length c1_2) := (blk_cell BK102.out 2).trans rfl; have hfz44_0 := blk_frozen BK102.out 0; have hfz44_1 := blk_frozen BK102.out 1; have hfz44_2 := blk_frozen BK102.out 2))
          go_ret
          exact ⟨_, by first | rfl | (simp [errW_none, errW_some] <;> rfl) | (simp [*, errW_none, errW_some] <;> rfl), by (with_reducible repeat (first | apply Kd.R_alloc | apply Kd.R_drewN | apply Kd.R_drew)); exact HO0.out, by repeat (first | (with_reducible first | exact HB.out | apply below_alloc | apply pw_below_drewN | apply below_drew1 | refine below_set ?_ GE102.out) | exact HB.out), by repeat (first | (with_reducible first | exact HK.out | apply Kept.alloc | apply Kept.drewN | apply Kept.drew | refine Kept.setCell ?_ (.inr GW102.out) _) | exact HK.out)⟩

/-! ### laws_zzFits30: function 41 -/
def laws_zzFits30.f (a0_0 : Int) (a0_1 : Int) (l0_2 : List Int) : Option (Bool) := if (l0_2.length : Int) > 2147483647 then (some false) else (some true)
set_option maxHeartbeats 8000000 in
set_option maxRecDepth 100000 in
theorem laws_zzFits30.calls (a0_0 : Int) (a0_1 : Int) (A0_2 : Option Addr) (c0_2 : Nat) (l0_2 : List Int) (r : Bool) (w : World) (hr0_2 : Kd.C (Kd.int .i64) w A0_2 l0_2.length l0_2) (hc0_2 : l0_2.length ≤ c0_2) (h : laws_zzFits30.f a0_0 a0_1 l0_2 = some r) :
    Calls Try.prog 41 #[.agg #[.int .i64 a0_0, .int .i64 a0_1, .slice A0_2 l0_2.length c0_2]] w fun e w' => e = .returned (.bool r) ∧ Below w.heap.size w w' := by
  have hu53 := Try.underlying53
  have HR0_2 := Aside0.mk hr0_2
  have HC0_2 := Aside0.mk hc0_2
  clear hr0_2 hc0_2
  have HB := Aside0.mk (Below.refl w.heap.size w)
  have H : (if (l0_2.length : Int) > 2147483647 then (some false) else (some true)) = some r := h
  clear h
  by_cases c2 : (l0_2.length : Int) > 2147483647
  · rw [if_pos c2] at H
    have c2b0 : decide (2147483647 < (l0_2.length : Int)) = true := decide_eq_true c2
    have c2b1 : decide (2147483647 < l0_2.length) = true := decide_eq_true (by omega)
    clear c2
    obtain rfl := Option.some.inj H
    go_enter Try.func41, Try.ntmps41
    go_wp2_with (first | ((with_reducible refine gate_dst (N := 1) rfl ?_); refine box_event ?hg (N := 1) ?hd (cs := #[.int .i64 a0_0, .int .i64 a0_1, .slice A0_2 l0_2.length c0_2]) (t := 53) ?hr ?_; (case hd => rfl); (case hg => rfl); (case hr => first | (go_simp; done) | (go_simp; rfl)); intro gb124 hg w3 hbox hb; have n0_ := Aside0.mk (below_step (by repeat (first | (with_reducible first | exact HB.out | apply below_alloc | apply pw_below_drewN | apply below_drew1) | exact HB.out)) hb); have n1_ := Aside0.mk (hbox); have n2_ := Aside0.mk ((by rw [hg]; exact (below_size (by repeat (first | (with_reducible first | exact HB.out | apply below_alloc | apply pw_below_drewN | apply below_drew1) | exact HB.out))) : w.heap.size ≤ gb124)); have n3_ := Aside0.mk ((by rw [hg]; exact (below_size (by repeat (first | (with_reducible first | exact HB.out | apply below_alloc | apply pw_below_drewN | apply below_drew1) | exact HB.out))) : w.heap.size ≤ gb124)); clear HB; have HB := n0_; have BK124 := n1_; have GW124 := n2_; have GE124 := n3_; clear n0_ n1_ n2_ n3_; clear hb hbox hg; have hcz4_0 : w3.cell? ⟨gb124, 0, none⟩ = some (.int .i64 a0_0) := (blk_cell BK124.out 0).trans rfl; have hcz4_1 : w3.cell? ⟨gb124, 1, none⟩ = some (.int .i64 a0_1) := (blk_cell BK124.out 1).trans rfl; have hcz4_2 : w3.cell? ⟨gb124, 2, none⟩ = some (.slice A0_2 l0_2.length c0_2) := (blk_cell BK124.out 2).trans rfl; have hfz4_0 := blk_frozen BK124.out 0; have hfz4_1 := blk_frozen BK124.out 1; have hfz4_2 := blk_frozen BK124.out 2))
    go_ret
    exact ⟨by first | rfl | (simp [errW_none, errW_some] <;> rfl) | (simp [*, errW_none, errW_some] <;> rfl), by repeat (first | (with_reducible first | exact HB.out | apply below_alloc | apply pw_below_drewN | apply below_drew1 | refine below_set ?_ GE124.out) | exact HB.out)⟩
  · rw [if_neg c2] at H
    have c2b0 : decide (2147483647 < (l0_2.length : Int)) = false := decide_eq_false c2
    have c2b1 : decide (2147483647 < l0_2.length) = false := decide_eq_false (by omega)
    clear c2
    obtain rfl := Option.some.inj H
    go_enter Try.func41, Try.ntmps41
    go_wp2_with (first | ((with_reducible refine gate_dst (N := 1) rfl ?_); refine box_event ?hg (N := 1) ?hd (cs := #[.int .i64 a0_0, .int .i64 a0_1, .slice A0_2 l0_2.length c0_2]) (t := 53) ?hr ?_; (case hd => rfl); (case hg => rfl); (case hr => first | (go_simp; done) | (go_simp; rfl)); intro gb124 hg w5 hbox hb; have n0_ := Aside0.mk (below_step (by repeat (first | (with_reducible first | exact HB.out | apply below_alloc | apply pw_below_drewN | apply below_drew1) | exact HB.out)) hb); have n1_ := Aside0.mk (hbox); have n2_ := Aside0.mk ((by rw [hg]; exact (below_size (by repeat (first | (with_reducible first | exact HB.out | apply below_alloc | apply pw_below_drewN | apply below_drew1) | exact HB.out))) : w.heap.size ≤ gb124)); have n3_ := Aside0.mk ((by rw [hg]; exact (below_size (by repeat (first | (with_reducible first | exact HB.out | apply below_alloc | apply pw_below_drewN | apply below_drew1) | exact HB.out))) : w.heap.size ≤ gb124)); clear HB; have HB := n0_; have BK124 := n1_; have GW124 := n2_; have GE124 := n3_; clear n0_ n1_ n2_ n3_; clear hb hbox hg; have hcz6_0 : w5.cell? ⟨gb124, 0, none⟩ = some (.int .i64 a0_0) := (blk_cell BK124.out 0).trans rfl; have hcz6_1 : w5.cell? ⟨gb124, 1, none⟩ = some (.int .i64 a0_1) := (blk_cell BK124.out 1).trans rfl; have hcz6_2 : w5.cell? ⟨gb124, 2, none⟩ = some (.slice A0_2 l0_2.length c0_2) := (blk_cell BK124.out 2).trans rfl; have hfz6_0 := blk_frozen BK124.out 0; have hfz6_1 := blk_frozen BK124.out 1; have hfz6_2 := blk_frozen BK124.out 2))
    go_ret
    exact ⟨by first | rfl | (simp [errW_none, errW_some] <;> rfl) | (simp [*, errW_none, errW_some] <;> rfl), by repeat (first | (with_reducible first | exact HB.out | apply below_alloc | apply pw_below_drewN | apply below_drew1 | refine below_set ?_ GE124.out) | exact HB.out)⟩

/-! ### laws_zzFits29: function 19 -/
def laws_zzFits29.l0 : Nat → List (S53) → Int → Int → Option (Bool)
  | 0, _, _, _ => none
  | k + 1, x8, x9, x10 => if x10 < x9 then (if 0 ≤ x10 then (if x10 < (x8.length : Int) then ((laws_zzFits30.f ((rd_T53 x8 x10).f0) ((rd_T53 x8 x10).f1) ((rd_T53 x8 x10).f2)).bind fun t127 => (if t127 = true then (laws_zzFits29.l0 k x8 x9 (wrap64 (x10 + 1))) else (some false))) else (none)) else (none)) else (some true)
def laws_zzFits29.f (k : Nat) (l0 : List (S53)) : Option (Bool) := if (l0.length : Int) > 2147483647 then (some false) else (laws_zzFits29.l0 k l0 (l0.length : Int) 0)
theorem laws_zzFits29.mono_l : ∀ k, (∀ y0 y1 y2, LeO (laws_zzFits29.l0 k y0 y1 y2) (laws_zzFits29.l0 (k + 1) y0 y1 y2))
  | 0 => fun _ _ _ r h => by simp [laws_zzFits29.l0] at h
  | k + 1 => by
    have ih0 := laws_zzFits29.mono_l k
    · intro y0 y1 y2
      unfold laws_zzFits29.l0
      repeat' first
      | (with_reducible exact ih0 _ _ _)
      | (with_reducible exact LeO.refl _)
      | (with_reducible exact LeO.none _)
      | (with_reducible refine LeO.ite ?_ ?_)
      | (with_reducible refine LeO.bind ?_ (fun _ => ?_))
      | exact ih0 _ _ _
      | exact LeO.none _
      | refine LeO.ite ?_ ?_
      | refine LeO.bind ?_ (fun _ => ?_)
theorem laws_zzFits29.mono : ∀ a0 k, LeO (laws_zzFits29.f k a0) (laws_zzFits29.f (k + 1) a0) := by
  intro a0 k
  have ih0 := laws_zzFits29.mono_l k
  unfold laws_zzFits29.f
  repeat' first
      | (with_reducible exact ih0 _ _ _)
      | (with_reducible exact LeO.refl _)
      | (with_reducible exact LeO.none _)
      | (with_reducible refine LeO.ite ?_ ?_)
      | (with_reducible refine LeO.bind ?_ (fun _ => ?_))
      | exact ih0 _ _ _
      | exact LeO.none _
      | refine LeO.ite ?_ ?_
      | refine LeO.bind ?_ (fun _ => ?_)
set_option maxHeartbeats 8000000 in
set_option maxRecDepth 100000 in
theorem laws_zzFits29.calls (k : Nat) (A0 : Option Addr) (c0 : Nat) (l0 : List (S53)) (r : Bool) (w : World) (hr0 : Kd.C k53 w A0 l0.length l0) (hc0 : l0.length ≤ c0) (h : laws_zzFits29.f k l0 = some r) :
    Calls Try.prog 19 #[.slice A0 l0.length c0] w fun e w' => e = .returned (.bool r) ∧ Below w.heap.size w w' := by
  have hu53 := Try.underlying53
  have HR0 := Aside0.mk hr0
  have HC0 := Aside0.mk hc0
  clear hr0 hc0
  have HB := Aside0.mk (Below.refl w.heap.size w)
  have H : (if (l0.length : Int) > 2147483647 then (some false) else (laws_zzFits29.l0 k l0 (l0.length : Int) 0)) = some r := h
  clear h
  by_cases c2 : (l0.length : Int) > 2147483647
  · rw [if_pos c2] at H
    have c2b0 : decide (2147483647 < (l0.length : Int)) = true := decide_eq_true c2
    have c2b1 : decide (2147483647 < l0.length) = true := decide_eq_true (by omega)
    clear c2
    obtain rfl := Option.some.inj H
    go_enter Try.func19, Try.ntmps19
    go_wp2
    go_ret
    exact ⟨by first | rfl | (simp [errW_none, errW_some] <;> rfl) | (simp [*, errW_none, errW_some] <;> rfl), by repeat (first | (with_reducible first | exact HB.out | apply below_alloc | apply pw_below_drewN | apply below_drew1) | exact HB.out)⟩
  · rw [if_neg c2] at H
    have c2b0 : decide (2147483647 < (l0.length : Int)) = false := decide_eq_false c2
    have c2b1 : decide (2147483647 < l0.length) = false := decide_eq_false (by omega)
    clear c2
    have H' := Aside0.mk H
    clear H
    go_enter Try.func19, Try.ntmps19
    go_wp2
    go_loopg [10] k (fun kq v10 w' => ∃ (x10_1 : Int), v10 = .int .i64 x10_1 ∧ Aside0 (laws_zzFits29.l0 kq l0 (l0.length : Int) x10_1 = some r) ∧ Aside0 (kq ≤ k) ∧ Aside0 (Below w.heap.size w w'))
    case atStart => exact ⟨(0), (by first | rfl | (simp; done) | (simp [*]; done)), H', ⟨Nat.le_refl _⟩, ⟨by repeat (first | (with_reducible first | exact HB.out | apply below_alloc | apply pw_below_drewN | apply below_drew1) | exact HB.out)⟩⟩
    case round =>
      clear H'
      try clear c1
      try clear c2
      try clear c2b0
      try clear c2b1
      try clear p2
      obtain ⟨x10_1, rfl, HA, HK1, HB⟩ := hrel
      cases gk with
      | zero => exact absurd HA.out (by simp [laws_zzFits29.l0])
      | succ k1 =>
        have H := HA.out
        clear HA
        simp only [laws_zzFits29.l0] at H
        by_cases c3 : x10_1 < (l0.length : Int)
        · rw [if_pos c3] at H
          have c3b0 : decide (x10_1 < (l0.length : Int)) = true := decide_eq_true c3
          clear c3
          by_cases c4 : 0 ≤ x10_1
          · rw [if_pos c4] at H
            have c4b0 : decide (0 ≤ x10_1) = true := decide_eq_true c4
            clear c4
            by_cases c5 : x10_1 < (l0.length : Int)
            · rw [if_pos c5] at H
              have c5b0 : decide (x10_1 < (l0.length : Int)) = true := decide_eq_true c5
              clear c5
              replace H := Option.bind_eq_some_iff.mp H
              obtain ⟨t127, A60, H⟩ := H
              replace H : (if t127 = true then (laws_zzFits29.l0 k1 l0 (l0.length : Int) (wrap64 (x10_1 + 1))) else (some false)) = some r := H
              have A6 := Aside0.mk A60
              clear A60
              by_cases c7 : t127 = true
              · subst c7
                have H1 : (laws_zzFits29.l0 k1 l0 (l0.length : Int) (wrap64 (x10_1 + 1))) = some r := by rw [if_pos rfl] at H; exact H
                clear H
                have H := H1
                clear H1
                have H' := Aside0.mk H
                clear H
                have p125 : 0 ≤ (x10_1 : Int) := of_decide_eq_true (by first | (with_reducible assumption) | assumption)
                have q125 : x10_1 < (l0.length : Int) := of_decide_eq_true (by first | (with_reducible assumption) | assumption)
                obtain ⟨ad125, A125_2, c125_2, e125, hx125_0, hx125_1, hx125_2, hl125_2, hi125_2⟩ := at_T53 HR0.out x10_1 p125 q125
                cases e125
                replace hx125_0 := (HB.out.cell (World.block_lt_of_cell? w _ hx125_0)).trans hx125_0
                replace hx125_1 := (HB.out.cell (World.block_lt_of_cell? w _ hx125_1)).trans hx125_1
                replace hx125_2 := (HB.out.cell (World.block_lt_of_cell? w _ hx125_2)).trans hx125_2
                have HR125_2 := Aside0.mk hi125_2
                have HC125_2 := Aside0.mk hl125_2
                clear hi125_2 hl125_2
                replace p125 := eq_true p125
                replace q125 := eq_true q125
                go_wp2_with (first | ((with_reducible refine gate_dst (N := 4) rfl ?_); refine box_event ?hg (N := 4) ?hd (cs := #[.int .i64 0, .int .i64 0, .slice none 0 0]) (t := 53) ?hr ?_; (case hd => rfl); (case hg => rfl); (case hr => first | (go_simp; done) | (go_simp; rfl)); intro gb126 hg w8 hbox hb; have n0_ := Aside0.mk (below_step (by repeat (first | (with_reducible first | exact HB.out | apply below_alloc | apply pw_below_drewN | apply below_drew1) | exact HB.out)) hb); have n1_ := Aside0.mk (hbox); have n2_ := Aside0.mk ((by rw [hg]; exact (below_size (by repeat (first | (with_reducible first | exact HB.out | apply below_alloc | apply pw_below_drewN | apply below_drew1) | exact HB.out))) : w.heap.size ≤ gb126)); have n3_ := Aside0.mk ((by rw [hg]; exact (below_size (by repeat (first | (with_reducible first | exact HB.out | apply below_alloc | apply pw_below_drewN | apply below_drew1) | exact HB.out))) : w.heap.size ≤ gb126)); clear HB; have HB := n0_; have BK126 := n1_; have GW126 := n2_; have GE126 := n3_; clear n0_ n1_ n2_ n3_; clear hb hbox hg; have hcz9_0 : w8.cell? ⟨gb126, 0, none⟩ = some (.int .i64 0) := (blk_cell BK126.out 0).trans rfl; have hcz9_1 : w8.cell? ⟨gb126, 1, none⟩ = some (.int .i64 0) := (blk_cell BK126.out 1).trans rfl; have hcz9_2 : w8.cell? ⟨gb126, 2, none⟩ = some (.slice none 0 0) := (blk_cell BK126.out 2).trans rfl; have hfz9_0 := blk_frozen BK126.out 0; have hfz9_1 := blk_frozen BK126.out 1; have hfz9_2 := blk_frozen BK126.out 2) | ((with_reducible refine gate_callee (f := 41) rfl ?_); refine goesL_ (some 15) rfl rfl Try.func41 (by kernel_rfl) rfl #[.agg #[.int .i64 ((rd_T53 l0 x10_1).f0), .int .i64 ((rd_T53 l0 x10_1).f1), .slice A125_2 ((rd_T53 l0 x10_1).f2).length c125_2]] rfl (by (try simp only [List.map_toArray, List.map_cons, List.map_nil]); first | done | rfl | (simp only [List.length_drop, List.length_take]; rfl)) ?_; (with_reducible refine (laws_zzFits30.calls ((rd_T53 l0 x10_1).f0) ((rd_T53 l0 x10_1).f1) _ _ ((rd_T53 l0 x10_1).f2) true _ ?side1 ?side2 A6.out).mono ?_); (case side1 => exact Kd.C_below HR125_2.out (by repeat (first | (with_reducible first | exact HB.out | apply below_alloc | apply pw_below_drewN | apply below_drew1 | refine below_set ?_ GE126.out) | exact HB.out))); (case side2 => exact HC125_2.out); rintro e w10 ⟨rfl, hb⟩; refine ⟨_, rfl, ?_⟩; have n0_ := Aside0.mk (blk_below (g := gb126) (o := .cells #[.int .i64 ((rd_T53 l0 x10_1).f0), .int .i64 ((rd_T53 l0 x10_1).f1), .slice A125_2 ((rd_T53 l0 x10_1).f2).length c125_2] 53 (0, 0)) (by (with_reducible repeat (first | refine blk_drewN ?_ _ | refine blk_drew ?_ | refine blk_alloc ?_ _)); refine blk_put (cs := #[.int .i64 ((rd_T53 l0 x10_1).f0), .int .i64 ((rd_T53 l0 x10_1).f1), .slice none 0 0]) ?_ 2 _ rfl; (with_reducible repeat (first | refine blk_drewN ?_ _ | refine blk_drew ?_ | refine blk_alloc ?_ _)); refine blk_put (cs := #[.int .i64 ((rd_T53 l0 x10_1).f0), .int .i64 0, .slice none 0 0]) ?_ 1 _ rfl; (with_reducible repeat (first | refine blk_drewN ?_ _ | refine blk_drew ?_ | refine blk_alloc ?_ _)); refine blk_put (cs := #[.int .i64 0, .int .i64 0, .slice none 0 0]) ?_ 0 _ rfl; (with_reducible repeat (first | refine blk_drewN ?_ _ | refine blk_drew ?_ | refine blk_alloc ?_ _)); exact BK126.out) hb); have n1_ := Aside0.mk (below_step (by repeat (first | (with_reducible first | exact HB.out | apply below_alloc | apply pw_below_drewN | apply below_drew1 | refine below_set ?_ GE126.out) | exact HB.out)) hb); clear BK126; clear HB; have BK126 := n0_; have HB := n1_; clear n0_ n1_; (try clear hb); (try clear hb2); (try clear hk); (try clear hi)))
                go_roundg k1
                case measure => have := HK1.out; omega
                case rel => exact ⟨(wrap64 (x10_1 + 1)), (by first | rfl | (simp; done) | (simp [*]; done)), H', ⟨by have := HK1.out; omega⟩, ⟨by repeat (first | (with_reducible first | exact HB.out | apply below_alloc | apply pw_below_drewN | apply below_drew1 | refine below_set ?_ GE126.out) | exact HB.out)⟩⟩
              · replace c7 := Bool.eq_false_iff.mpr c7
                subst c7
                have H1 : (some false) = some r := by rw [if_neg (show ¬ (false = true) by decide)] at H; exact H
                clear H
                have H := H1
                clear H1
                obtain rfl := Option.some.inj H
                have p125 : 0 ≤ (x10_1 : Int) := of_decide_eq_true (by first | (with_reducible assumption) | assumption)
                have q125 : x10_1 < (l0.length : Int) := of_decide_eq_true (by first | (with_reducible assumption) | assumption)
                obtain ⟨ad125, A125_2, c125_2, e125, hx125_0, hx125_1, hx125_2, hl125_2, hi125_2⟩ := at_T53 HR0.out x10_1 p125 q125
                cases e125
                replace hx125_0 := (HB.out.cell (World.block_lt_of_cell? w _ hx125_0)).trans hx125_0
                replace hx125_1 := (HB.out.cell (World.block_lt_of_cell? w _ hx125_1)).trans hx125_1
                replace hx125_2 := (HB.out.cell (World.block_lt_of_cell? w _ hx125_2)).trans hx125_2
                have HR125_2 := Aside0.mk hi125_2
                have HC125_2 := Aside0.mk hl125_2
                clear hi125_2 hl125_2
                replace p125 := eq_true p125
                replace q125 := eq_true q125
                go_wp2_with (first | ((with_reducible refine gate_dst (N := 4) rfl ?_); refine box_event ?hg (N := 4) ?hd (cs := #[.int .i64 0, .int .i64 0, .slice none 0 0]) (t := 53) ?hr ?_; (case hd => rfl); (case hg => rfl); (case hr => first | (go_simp; done) | (go_simp; rfl)); intro gb126 hg w11 hbox hb; have n0_ := Aside0.mk (below_step (by repeat (first | (with_reducible first | exact HB.out | apply below_alloc | apply pw_below_drewN | apply below_drew1) | exact HB.out)) hb); have n1_ := Aside0.mk (hbox); have n2_ := Aside0.mk ((by rw [hg]; exact (below_size (by repeat (first | (with_reducible first | exact HB.out | apply below_alloc | apply pw_below_drewN | apply below_drew1) | exact HB.out))) : w.heap.size ≤ gb126)); have n3_ := Aside0.mk ((by rw [hg]; exact (below_size (by repeat (first | (with_reducible first | exact HB.out | apply below_alloc | apply pw_below_drewN | apply below_drew1) | exact HB.out))) : w.heap.size ≤ gb126)); clear HB; have HB := n0_; have BK126 := n1_; have GW126 := n2_; have GE126 := n3_; clear n0_ n1_ n2_ n3_; clear hb hbox hg; have hcz12_0 : w11.cell? ⟨gb126, 0, none⟩ = some (.int .i64 0) := (blk_cell BK126.out 0).trans rfl; have hcz12_1 : w11.cell? ⟨gb126, 1, none⟩ = some (.int .i64 0) := (blk_cell BK126.out 1).trans rfl; have hcz12_2 : w11.cell? ⟨gb126, 2, none⟩ = some (.slice none 0 0) := (blk_cell BK126.out 2).trans rfl; have hfz12_0 := blk_frozen BK126.out 0; have hfz12_1 := blk_frozen BK126.out 1; have hfz12_2 := blk_frozen BK126.out 2) | ((with_reducible refine gate_callee (f := 41) rfl ?_); refine goesL_ (some 15) rfl rfl Try.func41 (by kernel_rfl) rfl #[.agg #[.int .i64 ((rd_T53 l0 x10_1).f0), .int .i64 ((rd_T53 l0 x10_1).f1), .slice A125_2 ((rd_T53 l0 x10_1).f2).length c125_2]] rfl (by (try simp only [List.map_toArray, List.map_cons, List.map_nil]); first | done | rfl | (simp only [List.length_drop, List.length_take]; rfl)) ?_; (with_reducible refine (laws_zzFits30.calls ((rd_T53 l0 x10_1).f0) ((rd_T53 l0 x10_1).f1) _ _ ((rd_T53 l0 x10_1).f2) false _ ?side1 ?side2 A6.out).mono ?_); (case side1 => exact Kd.C_below HR125_2.out (by repeat (first | (with_reducible first | exact HB.out | apply below_alloc | apply pw_below_drewN | apply below_drew1 | refine below_set ?_ GE126.out) | exact HB.out))); (case side2 => exact HC125_2.out); rintro e w13 ⟨rfl, hb⟩; refine ⟨_, rfl, ?_⟩; have n0_ := Aside0.mk (blk_below (g := gb126) (o := .cells #[.int .i64 ((rd_T53 l0 x10_1).f0), .int .i64 ((rd_T53 l0 x10_1).f1), .slice A125_2 ((rd_T53 l0 x10_1).f2).length c125_2] 53 (0, 0)) (by (with_reducible repeat (first | refine blk_drewN ?_ _ | refine blk_drew ?_ | refine blk_alloc ?_ _)); refine blk_put (cs := #[.int .i64 ((rd_T53 l0 x10_1).f0), .int .i64 ((rd_T53 l0 x10_1).f1), .slice none 0 0]) ?_ 2 _ rfl; (with_reducible repeat (first | refine blk_drewN ?_ _ | refine blk_drew ?_ | refine blk_alloc ?_ _)); refine blk_put (cs := #[.int .i64 ((rd_T53 l0 x10_1).f0), .int .i64 0, .slice none 0 0]) ?_ 1 _ rfl; (with_reducible repeat (first | refine blk_drewN ?_ _ | refine blk_drew ?_ | refine blk_alloc ?_ _)); refine blk_put (cs := #[.int .i64 0, .int .i64 0, .slice none 0 0]) ?_ 0 _ rfl; (with_reducible repeat (first | refine blk_drewN ?_ _ | refine blk_drew ?_ | refine blk_alloc ?_ _)); exact BK126.out) hb); have n1_ := Aside0.mk (below_step (by repeat (first | (with_reducible first | exact HB.out | apply below_alloc | apply pw_below_drewN | apply below_drew1 | refine below_set ?_ GE126.out) | exact HB.out)) hb); clear BK126; clear HB; have BK126 := n0_; have HB := n1_; clear n0_ n1_; (try clear hb); (try clear hb2); (try clear hk); (try clear hi)))
                go_ret
                exact ⟨by first | rfl | (simp [errW_none, errW_some] <;> rfl) | (simp [*, errW_none, errW_some] <;> rfl), by repeat (first | (with_reducible first | exact HB.out | apply below_alloc | apply pw_below_drewN | apply below_drew1 | refine below_set ?_ GE126.out) | exact HB.out)⟩
            · rw [if_neg c5] at H
              exact absurd H (by simp)
          · rw [if_neg c4] at H
            exact absurd H (by simp)
        · rw [if_neg c3] at H
          have c3b0 : decide (x10_1 < (l0.length : Int)) = false := decide_eq_false c3
          clear c3
          obtain rfl := Option.some.inj H
          go_wp2
          go_ret
          exact ⟨by first | rfl | (simp [errW_none, errW_some] <;> rfl) | (simp [*, errW_none, errW_some] <;> rfl), by repeat (first | (with_reducible first | exact HB.out | apply below_alloc | apply pw_below_drewN | apply below_drew1) | exact HB.out)⟩

end Go.Proofs.Ytapbnbinoakbhaa.GES
