-- printed by a program of this session (gprint.py) out of the translation; Lean checks it
import Derived.Test.YtphnnbbgcnilgaaDoorGFnListFormatx0
import Derived.Test.YtphnnbbgcnilgaaDoorGivenFmt
namespace Go.Proofs.YtphnnbbgcnilgaaDoor.GFnListFormat
open Go.RowKit Go.Proofs.YtphnnbbgcnilgaaDoorW.PrintWords Go.Proofs.YtphnnbbgcnilgaaDoorW.PrintLast Go.Proofs.YtphnnbbgcnilgaaDoor.GivenFmt Go.Proofs.YtphnnbbgcnilgaaDoorW.PrintMore
attribute [local go_sem] max2_int min2_int max_two min_two max_three min_three max_four min_four   -- for this text's walks alone
set_option linter.unusedVariables false
set_option linter.unusedSimpArgs false

/-! ### laws_zzFits2: function 16 -/
def laws_zzFits2.f (a0_0 : ByteArray) (a0_1 : Int) : Option (Bool) := if (a0_0.size : Int) > 2147483647 then (some false) else (some true)
set_option maxHeartbeats 8000000 in
set_option maxRecDepth 100000 in
theorem laws_zzFits2.calls (a0_0 : ByteArray) (a0_1 : Int) (r : Bool) (w : World) (h : laws_zzFits2.f a0_0 a0_1 = some r) :
    Calls Tryd.prog 16 #[.agg #[.string a0_0, .int .i64 a0_1]] w fun e w' => e = .returned (.bool r) ∧ Below w.heap.size w w' := by
  have hu36 := Tryd.underlying36
  have HB := Aside0.mk (Below.refl w.heap.size w)
  have H : (if (a0_0.size : Int) > 2147483647 then (some false) else (some true)) = some r := h
  clear h
  by_cases c2 : (a0_0.size : Int) > 2147483647
  · rw [if_pos c2] at H
    have c2b0 : decide (2147483647 < (a0_0.size : Int)) = true := decide_eq_true c2
    have c2b1 : decide (2147483647 < a0_0.size) = true := decide_eq_true (by omega)
    clear c2
    obtain rfl := Option.some.inj H
    go_enter Tryd.func16, Tryd.ntmps16
    go_wp2_with (first | ((with_reducible refine gate_dst (N := 1) rfl ?_); refine box_event ?hg (N := 1) ?hd (cs := #[.string a0_0, .int .i64 a0_1]) (t := 36) ?hr ?_; (case hd => rfl); (case hg => rfl); (case hr => first | (go_simp; done) | (go_simp; rfl)); intro gb101 hg w3 hbox hb; have n0_ := Aside0.mk (below_step (by repeat (first | (with_reducible first | exact HB.out | apply below_alloc | apply pw_below_drewN | apply below_drew1) | exact HB.out)) hb); have n1_ := Aside0.mk (hbox); have n2_ := Aside0.mk ((by rw [hg]; exact (below_size (by repeat (first | (with_reducible first | exact HB.out | apply below_alloc | apply pw_below_drewN | apply below_drew1) | exact HB.out))) : w.heap.size ≤ gb101)); have n3_ := Aside0.mk ((by rw [hg]; exact (below_size (by repeat (first | (with_reducible first | exact HB.out | apply below_alloc | apply pw_below_drewN | apply below_drew1) | exact HB.out))) : w.heap.size ≤ gb101)); clear HB; have HB := n0_; have BK101 := n1_; have GW101 := n2_; have GE101 := n3_; clear n0_ n1_ n2_ n3_; clear hb hbox hg; have hcz4_0 : w3.cell? ⟨gb101, 0, none⟩ = some (.string a0_0) := (blk_cell BK101.out 0).trans rfl; have hcz4_1 : w3.cell? ⟨gb101, 1, none⟩ = some (.int .i64 a0_1) := (blk_cell BK101.out 1).trans rfl; have hfz4_0 := blk_frozen BK101.out 0; have hfz4_1 := blk_frozen BK101.out 1))
    go_ret
    exact ⟨by first | rfl | (simp [errW_none, errW_some] <;> rfl) | (simp [*, errW_none, errW_some] <;> rfl), by repeat (first | (with_reducible first | exact HB.out | apply below_alloc | apply pw_below_drewN | apply below_drew1 | refine below_set ?_ GE101.out) | exact HB.out)⟩
  · rw [if_neg c2] at H
    have c2b0 : decide (2147483647 < (a0_0.size : Int)) = false := decide_eq_false c2
    have c2b1 : decide (2147483647 < a0_0.size) = false := decide_eq_false (by omega)
    clear c2
    obtain rfl := Option.some.inj H
    go_enter Tryd.func16, Tryd.ntmps16
    go_wp2_with (first | ((with_reducible refine gate_dst (N := 1) rfl ?_); refine box_event ?hg (N := 1) ?hd (cs := #[.string a0_0, .int .i64 a0_1]) (t := 36) ?hr ?_; (case hd => rfl); (case hg => rfl); (case hr => first | (go_simp; done) | (go_simp; rfl)); intro gb101 hg w5 hbox hb; have n0_ := Aside0.mk (below_step (by repeat (first | (with_reducible first | exact HB.out | apply below_alloc | apply pw_below_drewN | apply below_drew1) | exact HB.out)) hb); have n1_ := Aside0.mk (hbox); have n2_ := Aside0.mk ((by rw [hg]; exact (below_size (by repeat (first | (with_reducible first | exact HB.out | apply below_alloc | apply pw_below_drewN | apply below_drew1) | exact HB.out))) : w.heap.size ≤ gb101)); have n3_ := Aside0.mk ((by rw [hg]; exact (below_size (by repeat (first | (with_reducible first | exact HB.out | apply below_alloc | apply pw_below_drewN | apply below_drew1) | exact HB.out))) : w.heap.size ≤ gb101)); clear HB; have HB := n0_; have BK101 := n1_; have GW101 := n2_; have GE101 := n3_; clear n0_ n1_ n2_ n3_; clear hb hbox hg; have hcz6_0 : w5.cell? ⟨gb101, 0, none⟩ = some (.string a0_0) := (blk_cell BK101.out 0).trans rfl; have hcz6_1 : w5.cell? ⟨gb101, 1, none⟩ = some (.int .i64 a0_1) := (blk_cell BK101.out 1).trans rfl; have hfz6_0 := blk_frozen BK101.out 0; have hfz6_1 := blk_frozen BK101.out 1))
    go_ret
    exact ⟨by first | rfl | (simp [errW_none, errW_some] <;> rfl) | (simp [*, errW_none, errW_some] <;> rfl), by repeat (first | (with_reducible first | exact HB.out | apply below_alloc | apply pw_below_drewN | apply below_drew1 | refine below_set ?_ GE101.out) | exact HB.out)⟩

/-! ### laws_zzFits1: function 5 -/
def laws_zzFits1.l0 : Nat → List (S36) → Int → Int → Option (Bool)
  | 0, _, _, _ => none
  | k + 1, x8, x9, x10 => if x10 < x9 then (if 0 ≤ x10 then (if x10 < (x8.length : Int) then ((laws_zzFits2.f ((rd_T36 x8 x10).f0) ((rd_T36 x8 x10).f1)).bind fun t104 => (if t104 = true then (laws_zzFits1.l0 k x8 x9 (wrap64 (x10 + 1))) else (some false))) else (none)) else (none)) else (some true)
def laws_zzFits1.f (k : Nat) (l0 : List (S36)) : Option (Bool) := if (l0.length : Int) > 2147483647 then (some false) else (laws_zzFits1.l0 k l0 (l0.length : Int) 0)
theorem laws_zzFits1.mono_l : ∀ k, (∀ y0 y1 y2, LeO (laws_zzFits1.l0 k y0 y1 y2) (laws_zzFits1.l0 (k + 1) y0 y1 y2))
  | 0 => fun _ _ _ r h => by simp [laws_zzFits1.l0] at h
  | k + 1 => by
    have ih0 := laws_zzFits1.mono_l k
    · intro y0 y1 y2
      unfold laws_zzFits1.l0
      repeat' first
      | (with_reducible exact ih0 _ _ _)
      | (with_reducible exact LeO.refl _)
      | (with_reducible exact LeO.none _)
      | (with_reducible refine LeO.ite ?_ ?_)
      | (with_reducible refine LeO.bind ?_ (fun _ => ?_))
      | exact ih0 _ _ _
      | exact LeO.none _
      | refine LeO.ite ?_ ?_
      | refine LeO.bind ?_ (fun _ => ?_)
theorem laws_zzFits1.mono : ∀ a0 k, LeO (laws_zzFits1.f k a0) (laws_zzFits1.f (k + 1) a0) := by
  intro a0 k
  have ih0 := laws_zzFits1.mono_l k
  unfold laws_zzFits1.f
  repeat' first
      | (with_reducible exact ih0 _ _ _)
      | (with_reducible exact LeO.refl _)
      | (with_reducible exact LeO.none _)
      | (with_reducible refine LeO.ite ?_ ?_)
      | (with_reducible refine LeO.bind ?_ (fun _ => ?_))
      | exact ih0 _ _ _
      | exact LeO.none _
      | refine LeO.ite ?_ ?_
      | refine LeO.bind ?_ (fun _ => ?_)
set_option maxHeartbeats 8000000 in
set_option maxRecDepth 100000 in
theorem laws_zzFits1.calls (k : Nat) (A0 : Option Addr) (c0 : Nat) (l0 : List (S36)) (r : Bool) (w : World) (hr0 : Kd.C k36 w A0 l0.length l0) (hc0 : l0.length ≤ c0) (h : laws_zzFits1.f k l0 = some r) :
    Calls Tryd.prog 5 #[.slice A0 l0.length c0] w fun e w' => e = .returned (.bool r) ∧ Below w.heap.size w w' := by
  have hu36 := Tryd.underlying36
  have HR0 := Aside0.mk hr0
  have HC0 := Aside0.mk hc0
  clear hr0 hc0
  have HB := Aside0.mk (Below.refl w.heap.size w)
  have H : (if (l0.length : Int) > 2147483647 then (some false) else (laws_zzFits1.l0 k l0 (l0.length : Int) 0)) = some r := h
  clear h
  by_cases c2 : (l0.length : Int) > 2147483647
  · rw [if_pos c2] at H
    have c2b0 : decide (2147483647 < (l0.length : Int)) = true := decide_eq_true c2
    have c2b1 : decide (2147483647 < l0.length) = true := decide_eq_true (by omega)
    clear c2
    obtain rfl := Option.some.inj H
    go_enter Tryd.func5, Tryd.ntmps5
    go_wp2
    go_ret
    exact ⟨by first | rfl | (simp [errW_none, errW_some] <;> rfl) | (simp [*, errW_none, errW_some] <;> rfl), by repeat (first | (with_reducible first | exact HB.out | apply below_alloc | apply pw_below_drewN | apply below_drew1) | exact HB.out)⟩
  · rw [if_neg c2] at H
    have c2b0 : decide (2147483647 < (l0.length : Int)) = false := decide_eq_false c2
    have c2b1 : decide (2147483647 < l0.length) = false := decide_eq_false (by omega)
    clear c2
    have H' := Aside0.mk H
    clear H
    go_enter Tryd.func5, Tryd.ntmps5
    go_wp2
    go_loopg [10] k (fun kq v10 w' => ∃ (x10_1 : Int), v10 = .int .i64 x10_1 ∧ Aside0 (laws_zzFits1.l0 kq l0 (l0.length : Int) x10_1 = some r) ∧ Aside0 (kq ≤ k) ∧ Aside0 (Below w.heap.size w w'))
    case atStart => exact ⟨(0), (by first | rfl | (simp; done) | (simp [*]; done)), H', ⟨Nat.le_refl _⟩, ⟨by repeat (first | (with_reducible first | exact HB.out | apply below_alloc | apply pw_below_drewN | apply below_drew1) | exact HB.out)⟩⟩
    case round =>
      clear H'
      try clear c2
      try clear c2b0
      try clear c2b1
      try clear p2
      obtain ⟨x10_1, rfl, HA, HK1, HB⟩ := hrel
      cases gk with
      | zero => exact absurd HA.out (by simp [laws_zzFits1.l0])
      | succ k1 =>
        have H := HA.out
        clear HA
        simp only [laws_zzFits1.l0] at H
        by_cases c3 : x10_1 < (l0.length : Int)
        · rw [if_pos c3] at H
          have c3b0 : decide (x10_1 < (l0.length : Int)) = true := decide_eq_true c3
          clear c3
          by_cases c4 : 0 ≤ x10_1
          · rw [if_pos c4] at H
            have c4b0 : decide (0 ≤ x10_1) = true := decide_eq_true c4
            clear c4
            by_cases c5 : x10_1 < (l0.length : Int)
            · rw [if_pos c5] at H
              have c5b0 : decide (x10_1 < (l0.length : Int)) = true := decide_eq_true c5
              clear c5
              replace H := Option.bind_eq_some_iff.mp H
              obtain ⟨t104, A60, H⟩ := H
              replace H : (if t104 = true then (laws_zzFits1.l0 k1 l0 (l0.length : Int) (wrap64 (x10_1 + 1))) else (some false)) = some r := H
              have A6 := Aside0.mk A60
              clear A60
              by_cases c7 : t104 = true
              · subst c7
                have H1 : (laws_zzFits1.l0 k1 l0 (l0.length : Int) (wrap64 (x10_1 + 1))) = some r := by rw [if_pos rfl] at H; exact H
                clear H
                have H := H1
                clear H1
                have H' := Aside0.mk H
                clear H
                have p102 : 0 ≤ (x10_1 : Int) := of_decide_eq_true (by first | (with_reducible assumption) | assumption)
                have q102 : x10_1 < (l0.length : Int) := of_decide_eq_true (by first | (with_reducible assumption) | assumption)
                obtain ⟨ad102, e102, hx102_0, hx102_1⟩ := at_T36 HR0.out x10_1 p102 q102
                cases e102
                replace hx102_0 := (HB.out.cell (World.block_lt_of_cell? w _ hx102_0)).trans hx102_0
                replace hx102_1 := (HB.out.cell (World.block_lt_of_cell? w _ hx102_1)).trans hx102_1
                replace p102 := eq_true p102
                replace q102 := eq_true q102
                go_wp2_with (first | ((with_reducible refine gate_dst (N := 4) rfl ?_); refine box_event ?hg (N := 4) ?hd (cs := #[.string (⟨#[]⟩ : ByteArray), .int .i64 0]) (t := 36) ?hr ?_; (case hd => rfl); (case hg => rfl); (case hr => first | (go_simp; done) | (go_simp; rfl)); intro gb103 hg w8 hbox hb; have n0_ := Aside0.mk (below_step (by repeat (first | (with_reducible first | exact HB.out | apply below_alloc | apply pw_below_drewN | apply below_drew1) | exact HB.out)) hb); have n1_ := Aside0.mk (hbox); have n2_ := Aside0.mk ((by rw [hg]; exact (below_size (by repeat (first | (with_reducible first | exact HB.out | apply below_alloc | apply pw_below_drewN | apply below_drew1) | exact HB.out))) : w.heap.size ≤ gb103)); have n3_ := Aside0.mk ((by rw [hg]; exact (below_size (by repeat (first | (with_reducible first | exact HB.out | apply below_alloc | apply pw_below_drewN | apply below_drew1) | exact HB.out))) : w.heap.size ≤ gb103)); clear HB; have HB := n0_; have BK103 := n1_; have GW103 := n2_; have GE103 := n3_; clear n0_ n1_ n2_ n3_; clear hb hbox hg; have hcz9_0 : w8.cell? ⟨gb103, 0, none⟩ = some (.string (⟨#[]⟩ : ByteArray)) := (blk_cell BK103.out 0).trans rfl; have hcz9_1 : w8.cell? ⟨gb103, 1, none⟩ = some (.int .i64 0) := (blk_cell BK103.out 1).trans rfl; have hfz9_0 := blk_frozen BK103.out 0; have hfz9_1 := blk_frozen BK103.out 1) | ((with_reducible refine gate_callee (f := 16) rfl ?_); refine goesL_ (some 15) rfl rfl Tryd.func16 (by kernel_rfl) rfl #[.agg #[.string ((rd_T36 l0 x10_1).f0), .int .i64 ((rd_T36 l0 x10_1).f1)]] rfl (by (try simp only [List.map_toArray, List.map_cons, List.map_nil]); first | done | rfl | (simp only [List.length_drop, List.length_take]; rfl)) ?_; (with_reducible refine (laws_zzFits2.calls ((rd_T36 l0 x10_1).f0) ((rd_T36 l0 x10_1).f1) true _ A6.out).mono ?_); rintro e w10 ⟨rfl, hb⟩; refine ⟨_, rfl, ?_⟩; have n0_ := Aside0.mk (blk_below (g := gb103) (o := .cells #[.string ((rd_T36 l0 x10_1).f0), .int .i64 ((rd_T36 l0 x10_1).f1)] 36 (0, 0)) (by (with_reducible repeat (first | refine blk_drewN ?_ _ | refine blk_drew ?_ | refine blk_alloc ?_ _)); refine blk_put (cs := #[.string ((rd_T36 l0 x10_1).f0), .int .i64 0]) ?_ 1 _ rfl; (with_reducible repeat (first | refine blk_drewN ?_ _ | refine blk_drew ?_ | refine blk_alloc ?_ _)); refine blk_put (cs := #[.string (⟨#[]⟩ : ByteArray), .int .i64 0]) ?_ 0 _ rfl; (with_reducible repeat (first | refine blk_drewN ?_ _ | refine blk_drew ?_ | refine blk_alloc ?_ _)); exact BK103.out) hb); have n1_ := Aside0.mk (below_step (by repeat (first | (with_reducible first | exact HB.out | apply below_alloc | apply pw_below_drewN | apply below_drew1 | refine below_set ?_ GE103.out) | exact HB.out)) hb); clear BK103; clear HB; have BK103 := n0_; have HB := n1_; clear n0_ n1_; (try clear hb); (try clear hb2); (try clear hk); (try clear hi)))
                go_roundg k1
                case measure => have := HK1.out; omega
                case rel => exact ⟨(wrap64 (x10_1 + 1)), (by first | rfl | (simp; done) | (simp [*]; done)), H', ⟨by have := HK1.out; omega⟩, ⟨by repeat (first | (with_reducible first | exact HB.out | apply below_alloc | apply pw_below_drewN | apply below_drew1 | refine below_set ?_ GE103.out) | exact HB.out)⟩⟩
              · replace c7 := Bool.eq_false_iff.mpr c7
                subst c7
                have H1 : (some false) = some r := by rw [if_neg (show ¬ (false = true) by decide)] at H; exact H
                clear H
                have H := H1
                clear H1
                obtain rfl := Option.some.inj H
                have p102 : 0 ≤ (x10_1 : Int) := of_decide_eq_true (by first | (with_reducible assumption) | assumption)
                have q102 : x10_1 < (l0.length : Int) := of_decide_eq_true (by first | (with_reducible assumption) | assumption)
                obtain ⟨ad102, e102, hx102_0, hx102_1⟩ := at_T36 HR0.out x10_1 p102 q102
                cases e102
                replace hx102_0 := (HB.out.cell (World.block_lt_of_cell? w _ hx102_0)).trans hx102_0
                replace hx102_1 := (HB.out.cell (World.block_lt_of_cell? w _ hx102_1)).trans hx102_1
                replace p102 := eq_true p102
                replace q102 := eq_true q102
                go_wp2_with (first | ((with_reducible refine gate_dst (N := 4) rfl ?_); refine box_event ?hg (N := 4) ?hd (cs := #[.string (⟨#[]⟩ : ByteArray), .int .i64 0]) (t := 36) ?hr ?_; (case hd => rfl); (case hg => rfl); (case hr => first | (go_simp; done) | (go_simp; rfl)); intro gb103 hg w11 hbox hb; have n0_ := Aside0.mk (below_step (by repeat (first | (with_reducible first | exact HB.out | apply below_alloc | apply pw_below_drewN | apply below_drew1) | exact HB.out)) hb); have n1_ := Aside0.mk (hbox); have n2_ := Aside0.mk ((by rw [hg]; exact (below_size (by repeat (first | (with_reducible first | exact HB.out | apply below_alloc | apply pw_below_drewN | apply below_drew1) | exact HB.out))) : w.heap.size ≤ gb103)); have n3_ := Aside0.mk ((by rw [hg]; exact (below_size (by repeat (first | (with_reducible first | exact HB.out | apply below_alloc | apply pw_below_drewN | apply below_drew1) | exact HB.out))) : w.heap.size ≤ gb103)); clear HB; have HB := n0_; have BK103 := n1_; have GW103 := n2_; have GE103 := n3_; clear n0_ n1_ n2_ n3_; clear hb hbox hg; have hcz12_0 : w11.cell? ⟨gb103, 0, none⟩ = some (.string (⟨#[]⟩ : ByteArray)) := (blk_cell BK103.out 0).trans rfl; have hcz12_1 : w11.cell? ⟨gb103, 1, none⟩ = some (.int .i64 0) := (blk_cell BK103.out 1).trans rfl; have hfz12_0 := blk_frozen BK103.out 0; have hfz12_1 := blk_frozen BK103.out 1) | ((with_reducible refine gate_callee (f := 16) rfl ?_); refine goesL_ (some 15) rfl rfl Tryd.func16 (by kernel_rfl) rfl #[.agg #[.string ((rd_T36 l0 x10_1).f0), .int .i64 ((rd_T36 l0 x10_1).f1)]] rfl (by (try simp only [List.map_toArray, List.map_cons, List.map_nil]); first | done | rfl | (simp only [List.length_drop, List.length_take]; rfl)) ?_; (with_reducible refine (laws_zzFits2.calls ((rd_T36 l0 x10_1).f0) ((rd_T36 l0 x10_1).f1) false _ A6.out).mono ?_); rintro e w13 ⟨rfl, hb⟩; refine ⟨_, rfl, ?_⟩; have n0_ := Aside0.mk (blk_below (g := gb103) (o := .cells #[.string ((rd_T36 l0 x10_1).f0), .int .i64 ((rd_T36 l0 x10_1).f1)] 36 (0, 0)) (by (with_reducible repeat (first | refine blk_drewN ?_ _ | refine blk_drew ?_ | refine blk_alloc ?_ _)); refine blk_put (cs := #[.string ((rd_T36 l0 x10_1).f0), .int .i64 0]) ?_ 1 _ rfl; (with_reducible repeat (first | refine blk_drewN ?_ _ | refine blk_drew ?_ | refine blk_alloc ?_ _)); refine blk_put (cs := #[.string (⟨#[]⟩ : ByteArray), .int .i64 0]) ?_ 0 _ rfl; (with_reducible repeat (first | refine blk_drewN ?_ _ | refine blk_drew ?_ | refine blk_alloc ?_ _)); exact BK103.out) hb); have n1_ := Aside0.mk (below_step (by repeat (first | (with_reducible first | exact HB.out | apply below_alloc | apply pw_below_drewN | apply below_drew1 | refine below_set ?_ GE103.out) | exact HB.out)) hb); clear BK103; clear HB; have BK103 := n0_; have HB := n1_; clear n0_ n1_; (try clear hb); (try clear hb2); (try clear hk); (try clear hi)))
                go_ret
                exact ⟨by first | rfl | (simp [errW_none, errW_some] <;> rfl) | (simp [*, errW_none, errW_some] <;> rfl), by repeat (first | (with_reducible first | exact HB.out | apply below_alloc | apply pw_below_drewN | apply below_drew1 | refine below_set ?_ GE103.out) | exact HB.out)⟩
            · rw [if_neg c5] at H
              exact absurd H (by simp)
          · rw [if_neg c4] at H
            exact absurd H (by simp)
        · rw [if_neg c3] at H
          have c3b0 : decide (x10_1 < (l0.length : Int)) = false := decide_eq_false c3
          clear c3
          obtain rfl := Option.some.inj H
          go_wp2
          go_ret
          exact ⟨by first | rfl | (simp [errW_none, errW_some] <;> rfl) | (simp [*, errW_none, errW_some] <;> rfl), by repeat (first | (with_reducible first | exact HB.out | apply below_alloc | apply pw_below_drewN | apply below_drew1) | exact HB.out)⟩

/-! ### laws_zzFits3: function 6 -/
def laws_zzFits3.f (a0_0 : Int) (a0_1 : ByteArray) (a0_2 : ByteArray) (a0_3 : ByteArray) (a0_4 : ByteArray) (a0_5 : ByteArray) (a0_6 : ByteArray) (a0_7 : ByteArray) (a0_8 : ByteArray) : Option (Bool) := if (a0_1.size : Int) > 2147483647 then (some false) else (if (a0_2.size : Int) > 2147483647 then (some false) else (if (a0_3.size : Int) > 2147483647 then (some false) else (if (a0_4.size : Int) > 2147483647 then (some false) else (if (a0_5.size : Int) > 2147483647 then (some false) else (if (a0_6.size : Int) > 2147483647 then (some false) else (if (a0_7.size : Int) > 2147483647 then (some false) else (if (a0_8.size : Int) > 2147483647 then (some false) else (some true))))))))
set_option maxHeartbeats 8000000 in
set_option maxRecDepth 100000 in
theorem laws_zzFits3.calls (a0_0 : Int) (a0_1 : ByteArray) (a0_2 : ByteArray) (a0_3 : ByteArray) (a0_4 : ByteArray) (a0_5 : ByteArray) (a0_6 : ByteArray) (a0_7 : ByteArray) (a0_8 : ByteArray) (r : Bool) (w : World) (h : laws_zzFits3.f a0_0 a0_1 a0_2 a0_3 a0_4 a0_5 a0_6 a0_7 a0_8 = some r) :
    Calls Tryd.prog 6 #[.agg #[.int .i64 a0_0, .string a0_1, .string a0_2, .string a0_3, .string a0_4, .string a0_5, .string a0_6, .string a0_7, .string a0_8]] w fun e w' => e = .returned (.bool r) ∧ Below w.heap.size w w' := by
  have hu24 := Tryd.underlying24
  have HB := Aside0.mk (Below.refl w.heap.size w)
  have H : (if (a0_1.size : Int) > 2147483647 then (some false) else (if (a0_2.size : Int) > 2147483647 then (some false) else (if (a0_3.size : Int) > 2147483647 then (some false) else (if (a0_4.size : Int) > 2147483647 then (some false) else (if (a0_5.size : Int) > 2147483647 then (some false) else (if (a0_6.size : Int) > 2147483647 then (some false) else (if (a0_7.size : Int) > 2147483647 then (some false) else (if (a0_8.size : Int) > 2147483647 then (some false) else (some true))))))))) = some r := h
  clear h
  by_cases c2 : (a0_1.size : Int) > 2147483647
  · rw [if_pos c2] at H
    have c2b0 : decide (2147483647 < (a0_1.size : Int)) = true := decide_eq_true c2
    have c2b1 : decide (2147483647 < a0_1.size) = true := decide_eq_true (by omega)
    clear c2
    obtain rfl := Option.some.inj H
    go_enter Tryd.func6, Tryd.ntmps6
    go_wp2_with (first | ((with_reducible refine gate_dst (N := 1) rfl ?_); refine box_event ?hg (N := 1) ?hd (cs := #[.int .i64 a0_0, .string a0_1, .string a0_2, .string a0_3, .string a0_4, .string a0_5, .string a0_6, .string a0_7, .string a0_8]) (t := 24) ?hr ?_; (case hd => rfl); (case hg => rfl); (case hr => first | (go_simp; done) | (go_simp; rfl)); intro gb105 hg w3 hbox hb; have n0_ := Aside0.mk (below_step (by repeat (first | (with_reducible first | exact HB.out | apply below_alloc | apply pw_below_drewN | apply below_drew1) | exact HB.out)) hb); have n1_ := Aside0.mk (hbox); have n2_ := Aside0.mk ((by rw [hg]; exact (below_size (by repeat (first | (with_reducible first | exact HB.out | apply below_alloc | apply pw_below_drewN | apply below_drew1) | exact HB.out))) : w.heap.size ≤ gb105)); have n3_ := Aside0.mk ((by rw [hg]; exact (below_size (by repeat (first | (with_reducible first | exact HB.out | apply below_alloc | apply pw_below_drewN | apply below_drew1) | exact HB.out))) : w.heap.size ≤ gb105)); clear HB; have HB := n0_; have BK105 := n1_; have GW105 := n2_; have GE105 := n3_; clear n0_ n1_ n2_ n3_; clear hb hbox hg; have hcz4_0 : w3.cell? ⟨gb105, 0, none⟩ = some (.int .i64 a0_0) := (blk_cell BK105.out 0).trans rfl; have hcz4_1 : w3.cell? ⟨gb105, 1, none⟩ = some (.string a0_1) := (blk_cell BK105.out 1).trans rfl; have hcz4_2 : w3.cell? ⟨gb105, 2, none⟩ = some (.string a0_2) := (blk_cell BK105.out 2).trans rfl; have hcz4_3 : w3.cell? ⟨gb105, 3, none⟩ = some (.string a0_3) := (blk_cell BK105.out 3).trans rfl; have hcz4_4 : w3.cell? ⟨gb105, 4, none⟩ = some (.string a0_4) := (blk_cell BK105.out 4).trans rfl; have hcz4_5 : w3.cell? ⟨gb105, 5, none⟩ = some (.string a0_5) := (blk_cell BK105.out 5).trans rfl; have hcz4_6 : w3.cell? ⟨gb105, 6, none⟩ = some (.string a0_6) := (blk_cell BK105.out 6).trans rfl; have hcz4_7 : w3.cell? ⟨gb105, 7, none⟩ = some (.string a0_7) := (blk_cell BK105.out 7).trans rfl; have hcz4_8 : w3.cell? ⟨gb105, 8, none⟩ = some (.string a0_8) := (blk_cell BK105.out 8).trans rfl; have hfz4_0 := blk_frozen BK105.out 0; have hfz4_1 := blk_frozen BK105.out 1; have hfz4_2 := blk_frozen BK105.out 2; have hfz4_3 := blk_frozen BK105.out 3; have hfz4_4 := blk_frozen BK105.out 4; have hfz4_5 := blk_frozen BK105.out 5; have hfz4_6 := blk_frozen BK105.out 6; have hfz4_7 := blk_frozen BK105.out 7; have hfz4_8 := blk_frozen BK105.out 8))
    go_ret
    exact ⟨by first | rfl | (simp [errW_none, errW_some] <;> rfl) | (simp [*, errW_none, errW_some] <;> rfl), by repeat (first | (with_reducible first | exact HB.out | apply below_alloc | apply pw_below_drewN | apply below_drew1 | refine below_set ?_ GE105.out) | exact HB.out)⟩
  · rw [if_neg c2] at H
    have c2b0 : decide (2147483647 < (a0_1.size : Int)) = false := decide_eq_false c2
    have c2b1 : decide (2147483647 < a0_1.size) = false := decide_eq_false (by omega)
    clear c2
    by_cases c5 : (a0_2.size : Int) > 2147483647
    · rw [if_pos c5] at H
      have c5b0 : decide (2147483647 < (a0_2.size : Int)) = true := decide_eq_true c5
      have c5b1 : decide (2147483647 < a0_2.size) = true := decide_eq_true (by omega)
      clear c5
      obtain rfl := Option.some.inj H
      go_enter Tryd.func6, Tryd.ntmps6
      go_wp2_with (first | ((with_reducible refine gate_dst (N := 1) rfl ?_); refine box_event ?hg (N := 1) ?hd (cs := #[.int .i64 a0_0, .string a0_1, .string a0_2, .string a0_3, .string a0_4, .string a0_5, .string a0_6, .string a0_7, .string a0_8]) (t := 24) ?hr ?_; (case hd => rfl); (case hg => rfl); (case hr => first | (go_simp; done) | (go_simp; rfl)); intro gb105 hg w6 hbox hb; have n0_ := Aside0.mk (below_step (by repeat (first | (with_reducible first | exact HB.out | apply below_alloc | apply pw_below_drewN | apply below_drew1) | exact HB.out)) hb); have n1_ := Aside0.mk (hbox); have n2_ := Aside0.mk ((by rw [hg]; exact (below_size (by repeat (first | (with_reducible first | exact HB.out | apply below_alloc | apply pw_below_drewN | apply below_drew1) | exact HB.out))) : w.heap.size ≤ gb105)); have n3_ := Aside0.mk ((by rw [hg]; exact (below_size (by repeat (first | (with_reducible first | exact HB.out | apply below_alloc | apply pw_below_drewN | apply below_drew1) | exact HB.out))) : w.heap.size ≤ gb105)); clear HB; have HB := n0_; have BK105 := n1_; have GW105 := n2_; have GE105 := n3_; clear n0_ n1_ n2_ n3_; clear hb hbox hg; have hcz7_0 : w6.cell? ⟨gb105, 0, none⟩ = some (.int .i64 a0_0) := (blk_cell BK105.out 0).trans rfl; have hcz7_1 : w6.cell? ⟨gb105, 1, none⟩ = some (.string a0_1) := (blk_cell BK105.out 1).trans rfl; have hcz7_2 : w6.cell? ⟨gb105, 2, none⟩ = some (.string a0_2) := (blk_cell BK105.out 2).trans rfl; have hcz7_3 : w6.cell? ⟨gb105, 3, none⟩ = some (.string a0_3) := (blk_cell BK105.out 3).trans rfl; have hcz7_4 : w6.cell? ⟨gb105, 4, none⟩ = some (.string a0_4) := (blk_cell BK105.out 4).trans rfl; have hcz7_5 : w6.cell? ⟨gb105, 5, none⟩ = some (.string a0_5) := (blk_cell BK105.out 5).trans rfl; have hcz7_6 : w6.cell? ⟨gb105, 6, none⟩ = some (.string a0_6) := (blk_cell BK105.out 6).trans rfl; have hcz7_7 : w6.cell? ⟨gb105, 7, none⟩ = some (.string a0_7) := (blk_cell BK105.out 7).trans rfl; have hcz7_8 : w6.cell? ⟨gb105, 8, none⟩ = some (.string a0_8) := (blk_cell BK105.out 8).trans rfl; have hfz7_0 := blk_frozen BK105.out 0; have hfz7_1 := blk_frozen BK105.out 1; have hfz7_2 := blk_frozen BK105.out 2; have hfz7_3 := blk_frozen BK105.out 3; have hfz7_4 := blk_frozen BK105.out 4; have hfz7_5 := blk_frozen BK105.out 5; have hfz7_6 := blk_frozen BK105.out 6; have hfz7_7 := blk_frozen BK105.out 7; have hfz7_8 := blk_frozen BK105.out 8))
      go_ret
      exact ⟨by first | rfl | (simp [errW_none, errW_some] <;> rfl) | (simp [*, errW_none, errW_some] <;> rfl), by repeat (first | (with_reducible first | exact HB.out | apply below_alloc | apply pw_below_drewN | apply below_drew1 | refine below_set ?_ GE105.out) | exact HB.out)⟩
    · rw [if_neg c5] at H
      have c5b0 : decide (2147483647 < (a0_2.size : Int)) = false := decide_eq_false c5
      have c5b1 : decide (2147483647 < a0_2.size) = false := decide_eq_false (by omega)
      clear c5
      by_cases c8 : (a0_3.size : Int) > 2147483647
      · rw [if_pos c8] at H
        have c8b0 : decide (2147483647 < (a0_3.size : Int)) = true := decide_eq_true c8
        have c8b1 : decide (2147483647 < a0_3.size) = true := decide_eq_true (by omega)
        clear c8
        obtain rfl := Option.some.inj H
        go_enter Tryd.func6, Tryd.ntmps6
        go_wp2_with (first | ((with_reducible refine gate_dst (N := 1) rfl ?_); refine box_event ?hg (N := 1) ?hd (cs := #[.int .i64 a0_0, .string a0_1, .string a0_2, .string a0_3, .string a0_4, .string a0_5, .string a0_6, .string a0_7, .string a0_8]) (t := 24) ?hr ?_; (case hd => rfl); (case hg => rfl); (case hr => first | (go_simp; done) | (go_simp; rfl)); intro gb105 hg w9 hbox hb; have n0_ := Aside0.mk (below_step (by repeat (first | (with_reducible first | exact HB.out | apply below_alloc | apply pw_below_drewN | apply below_drew1) | exact HB.out)) hb); have n1_ := Aside0.mk (hbox); have n2_ := Aside0.mk ((by rw [hg]; exact (below_size (by repeat (first | (with_reducible first | exact HB.out | apply below_alloc | apply pw_below_drewN | apply below_drew1) | exact HB.out))) : w.heap.size ≤ gb105)); have n3_ := Aside0.mk ((by rw [hg]; exact (below_size (by repeat (first | (with_reducible first | exact HB.out | apply below_alloc | apply pw_below_drewN | apply below_drew1) | exact HB.out))) : w.heap.size ≤ gb105)); clear HB; have HB := n0_; have BK105 := n1_; have GW105 := n2_; have GE105 := n3_; clear n0_ n1_ n2_ n3_; clear hb hbox hg; have hcz10_0 : w9.cell? ⟨gb105, 0, none⟩ = some (.int .i64 a0_0) := (blk_cell BK105.out 0).trans rfl; have hcz10_1 : w9.cell? ⟨gb105, 1, none⟩ = some (.string a0_1) := (blk_cell BK105.out 1).trans rfl; have hcz10_2 : w9.cell? ⟨gb105, 2, none⟩ = some (.string a0_2) := (blk_cell BK105.out 2).trans rfl; have hcz10_3 : w9.cell? ⟨gb105, 3, none⟩ = some (.string a0_3) := (blk_cell BK105.out 3).trans rfl; have hcz10_4 : w9.cell? ⟨gb105, 4, none⟩ = some (.string a0_4) := (blk_cell BK105.out 4).trans rfl; have hcz10_5 : w9.cell? ⟨gb105, 5, none⟩ = some (.string a0_5) := (blk_cell BK105.out 5).trans rfl; have hcz10_6 : w9.cell? ⟨gb105, 6, none⟩ = some (.string a0_6) := (blk_cell BK105.out 6).trans rfl; have hcz10_7 : w9.cell? ⟨gb105, 7, none⟩ = some (.string a0_7) := (blk_cell BK105.out 7).trans rfl; have hcz10_8 : w9.cell? ⟨gb105, 8, none⟩ = some (.string a0_8) := (blk_cell BK105.out 8).trans rfl; have hfz10_0 := blk_frozen BK105.out 0; have hfz10_1 := blk_frozen BK105.out 1; have hfz10_2 := blk_frozen BK105.out 2; have hfz10_3 := blk_frozen BK105.out 3; have hfz10_4 := blk_frozen BK105.out 4; have hfz10_5 := blk_frozen BK105.out 5; have hfz10_6 := blk_frozen BK105.out 6; have hfz10_7 := blk_frozen BK105.out 7; have hfz10_8 := blk_frozen BK105.out 8))
        go_ret
        exact ⟨by first | rfl | (simp [errW_none, errW_some] <;> rfl) | (simp [*, errW_none, errW_some] <;> rfl), by repeat (first | (with_reducible first | exact HB.out | apply below_alloc | apply pw_below_drewN | apply below_drew1 | refine below_set ?_ GE105.out) | exact HB.out)⟩
      · rw [if_neg c8] at H
        have c8b0 : decide (2147483647 < (a0_3.size : Int)) = false := decide_eq_false c8
        have c8b1 : decide (2147483647 < a0_3.size) = false := decide_eq_false (by omega)
        clear c8
        by_cases c11 : (a0_4.size : Int) > 2147483647
        · rw [if_pos c11] at H
          have c11b0 : decide (2147483647 < (a0_4.size : Int)) = true := decide_eq_true c11
          have c11b1 : decide (2147483647 < a0_4.size) = true := decide_eq_true (by omega)
          clear c11
          obtain rfl := Option.some.inj H
          go_enter Tryd.func6, Tryd.ntmps6
          go_wp2_with (first | ((with_reducible refine gate_dst (N := 1) rfl ?_); refine box_event ?hg (N := 1) ?hd (cs := #[.int .i64 a0_0, .string a0_1, .string a0_2, .string a0_3, .string a0_4, .string a0_5, .string a0_6, .string a0_7, .string a0_8]) (t := 24) ?hr ?_; (case hd => rfl); (case hg => rfl); (case hr => first | (go_simp; done) | (go_simp; rfl)); intro gb105 hg w12 hbox hb; have n0_ := Aside0.mk (below_step (by repeat (first | (with_reducible first | exact HB.out | apply below_alloc | apply pw_below_drewN | apply below_drew1) | exact HB.out)) hb); have n1_ := Aside0.mk (hbox); have n2_ := Aside0.mk ((by rw [hg]; exact (below_size (by repeat (first | (with_reducible first | exact HB.out | apply below_alloc | apply pw_below_drewN | apply below_drew1) | exact HB.out))) : w.heap.size ≤ gb105)); have n3_ := Aside0.mk ((by rw [hg]; exact (below_size (by repeat (first | (with_reducible first | exact HB.out | apply below_alloc | apply pw_below_drewN | apply below_drew1) | exact HB.out))) : w.heap.size ≤ gb105)); clear HB; have HB := n0_; have BK105 := n1_; have GW105 := n2_; have GE105 := n3_; clear n0_ n1_ n2_ n3_; clear hb hbox hg; have hcz13_0 : w12.cell? ⟨gb105, 0, none⟩ = some (.int .i64 a0_0) := (blk_cell BK105.out 0).trans rfl; have hcz13_1 : w12.cell? ⟨gb105, 1, none⟩ = some (.string a0_1) := (blk_cell BK105.out 1).trans rfl; have hcz13_2 : w12.cell? ⟨gb105, 2, none⟩ = some (.string a0_2) := (blk_cell BK105.out 2).trans rfl; have hcz13_3 : w12.cell? ⟨gb105, 3, none⟩ = some (.string a0_3) := (blk_cell BK105.out 3).trans rfl; have hcz13_4 : w12.cell? ⟨gb105, 4, none⟩ = some (.string a0_4) := (blk_cell BK105.out 4).trans rfl; have hcz13_5 : w12.cell? ⟨gb105, 5, none⟩ = some (.string a0_5) := (blk_cell BK105.out 5).trans rfl; have hcz13_6 : w12.cell? ⟨gb105, 6, none⟩ = some (.string a0_6) := (blk_cell BK105.out 6).trans rfl; have hcz13_7 : w12.cell? ⟨gb105, 7, none⟩ = some (.string a0_7) := (blk_cell BK105.out 7).trans rfl; have hcz13_8 : w12.cell? ⟨gb105, 8, none⟩ = some (.string a0_8) := (blk_cell BK105.out 8).trans rfl; have hfz13_0 := blk_frozen BK105.out 0; have hfz13_1 := blk_frozen BK105.out 1; have hfz13_2 := blk_frozen BK105.out 2; have hfz13_3 := blk_frozen BK105.out 3; have hfz13_4 := blk_frozen BK105.out 4; have hfz13_5 := blk_frozen BK105.out 5; have hfz13_6 := blk_frozen BK105.out 6; have hfz13_7 := blk_frozen BK105.out 7; have hfz13_8 := blk_frozen BK105.out 8))
          go_ret
          exact ⟨by first | rfl | (simp [errW_none, errW_some] <;> rfl) | (simp [*, errW_none, errW_some] <;> rfl), by repeat (first | (with_reducible first | exact HB.out | apply below_alloc | apply pw_below_drewN | apply below_drew1 | refine below_set ?_ GE105.out) | exact HB.out)⟩
        · rw [if_neg c11] at H
          have c11b0 : decide (2147483647 < (a0_4.size : Int)) = false := decide_eq_false c11
          have c11b1 : decide (2147483647 < a0_4.size) = false := decide_eq_false (by omega)
          clear c11
          by_cases c14 : (a0_5.size : Int) > 2147483647
          · rw [if_pos c14] at H
            have c14b0 : decide (2147483647 < (a0_5.size : Int)) = true := decide_eq_true c14
            have c14b1 : decide (2147483647 < a0_5.size) = true := decide_eq_true (by omega)
            clear c14
            obtain rfl := Option.some.inj H
            go_enter Tryd.func6, Tryd.ntmps6
            go_wp2_with (first | ((with_reducible refine gate_dst (N := 1) rfl ?_); refine box_event ?hg (N := 1) ?hd (cs := #[.int .i64 a0_0, .string a0_1, .string a0_2, .string a0_3, .string a0_4, .string a0_5, .string a0_6, .string a0_7, .string a0_8]) (t := 24) ?hr ?_; (case hd => rfl); (case hg => rfl); (case hr => first | (go_simp; done) | (go_simp; rfl)); intro gb105 hg w15 hbox hb; have n0_ := Aside0.mk (below_step (by repeat (first | (with_reducible first | exact HB.out | apply below_alloc | apply pw_below_drewN | apply below_drew1) | exact HB.out)) hb); have n1_ := Aside0.mk (hbox); have n2_ := Aside0.mk ((by rw [hg]; exact (below_size (by repeat (first | (with_reducible first | exact HB.out | apply below_alloc | apply pw_below_drewN | apply below_drew1) | exact HB.out))) : w.heap.size ≤ gb105)); have n3_ := Aside0.mk ((by rw [hg]; exact (below_size (by repeat (first | (with_reducible first | exact HB.out | apply below_alloc | apply pw_below_drewN | apply below_drew1) | exact HB.out))) : w.heap.size ≤ gb105)); clear HB; have HB := n0_; have BK105 := n1_; have GW105 := n2_; have GE105 := n3_; clear n0_ n1_ n2_ n3_; clear hb hbox hg; have hcz16_0 : w15.cell? ⟨gb105, 0, none⟩ = some (.int .i64 a0_0) := (blk_cell BK105.out 0).trans rfl; have hcz16_1 : w15.cell? ⟨gb105, 1, none⟩ = some (.string a0_1) := (blk_cell BK105.out 1).trans rfl; have hcz16_2 : w15.cell? ⟨gb105, 2, none⟩ = some (.string a0_2) := (blk_cell BK105.out 2).trans rfl; have hcz16_3 : w15.cell? ⟨gb105, 3, none⟩ = some (.string a0_3) := (blk_cell BK105.out 3).trans rfl; have hcz16_4 : w15.cell? ⟨gb105, 4, none⟩ = some (.string a0_4) := (blk_cell BK105.out 4).trans rfl; have hcz16_5 : w15.cell? ⟨gb105, 5, none⟩ = some (.string a0_5) := (blk_cell BK105.out 5).trans rfl; have hcz16_6 : w15.cell? ⟨gb105, 6, none⟩ = some (.string a0_6) := (blk_cell BK105.out 6).trans rfl; have hcz16_7 : w15.cell? ⟨gb105, 7, none⟩ = some (.string a0_7) := (blk_cell BK105.out 7).trans rfl; have hcz16_8 : w15.cell? ⟨gb105, 8, none⟩ = some (.string a0_8) := (blk_cell BK105.out 8).trans rfl; have hfz16_0 := blk_frozen BK105.out 0; have hfz16_1 := blk_frozen BK105.out 1; have hfz16_2 := blk_frozen BK105.out 2; have hfz16_3 := blk_frozen BK105.out 3; have hfz16_4 := blk_frozen BK105.out 4; have hfz16_5 := blk_frozen BK105.out 5; have hfz16_6 := blk_frozen BK105.out 6; have hfz16_7 := blk_frozen BK105.out 7; have hfz16_8 := blk_frozen BK105.out 8))
            go_ret
            exact ⟨by first | rfl | (simp [errW_none, errW_some] <;> rfl) | (simp [*, errW_none, errW_some] <;> rfl), by repeat (first | (with_reducible first | exact HB.out | apply below_alloc | apply pw_below_drewN | apply below_drew1 | refine below_set ?_ GE105.out) | exact HB.out)⟩
          · rw [if_neg c14] at H
            have c14b0 : decide (2147483647 < (a0_5.size : Int)) = false := decide_eq_false c14
            have c14b1 : decide (2147483647 < a0_5.size) = false := decide_eq_false (by omega)
            clear c14
            by_cases c17 : (a0_6.size : Int) > 2147483647
            · rw [if_pos c17] at H
              have c17b0 : decide (2147483647 < (a0_6.size : Int)) = true := decide_eq_true c17
              have c17b1 : decide (2147483647 < a0_6.size) = true := decide_eq_true (by omega)
              clear c17
              obtain rfl := Option.some.inj H
              go_enter Tryd.func6, Tryd.ntmps6
              go_wp2_with (first | ((with_reducible refine gate_dst (N := 1) rfl ?_); refine box_event ?hg (N := 1) ?hd (cs := #[.int .i64 a0_0, .string a0_1, .string a0_2, .string a0_3, .string a0_4, .string a0_5, .string a0_6, .string a0_7, .string a0_8]) (t := 24) ?hr ?_; (case hd => rfl); (case hg => rfl); (case hr => first | (go_simp; done) | (go_simp; rfl)); intro gb105 hg w18 hbox hb; have n0_ := Aside0.mk (below_step (by repeat (first | (with_reducible first | exact HB.out | apply below_alloc | apply pw_below_drewN | apply below_drew1) | exact HB.out)) hb); have n1_ := Aside0.mk (hbox); have n2_ := Aside0.mk ((by rw [hg]; exact (below_size (by repeat (first | (with_reducible first | exact HB.out | apply below_alloc | apply pw_below_drewN | apply below_drew1) | exact HB.out))) : w.heap.size ≤ gb105)); have n3_ := Aside0.mk ((by rw [hg]; exact (below_size (by repeat (first | (with_reducible first | exact HB.out | apply below_alloc | apply pw_below_drewN | apply below_drew1) | exact HB.out))) : w.heap.size ≤ gb105)); clear HB; have HB := n0_; have BK105 := n1_; have GW105 := n2_; have GE105 := n3_; clear n0_ n1_ n2_ n3_; clear hb hbox hg; have hcz19_0 : w18.cell? ⟨gb105, 0, none⟩ = some (.int .i64 a0_0) := (blk_cell BK105.out 0).trans rfl; have hcz19_1 : w18.cell? ⟨gb105, 1, none⟩ = some (.string a0_1) := (blk_cell BK105.out 1).trans rfl; have hcz19_2 : w18.cell? ⟨gb105, 2, none⟩ = some (.string a0_2) := (blk_cell BK105.out 2).trans rfl; have hcz19_3 : w18.cell? ⟨gb105, 3, none⟩ = some (.string a0_3) := (blk_cell BK105.out 3).trans rfl; have hcz19_4 : w18.cell? ⟨gb105, 4, none⟩ = some (.string a0_4) := (blk_cell BK105.out 4).trans rfl; have hcz19_5 : w18.cell? ⟨gb105, 5, none⟩ = some (.string a0_5) := (blk_cell BK105.out 5).trans rfl; have hcz19_6 : w18.cell? ⟨gb105, 6, none⟩ = some (.string a0_6) := (blk_cell BK105.out 6).trans rfl; have hcz19_7 : w18.cell? ⟨gb105, 7, none⟩ = some (.string a0_7) := (blk_cell BK105.out 7).trans rfl; have hcz19_8 : w18.cell? ⟨gb105, 8, none⟩ = some (.string a0_8) := (blk_cell BK105.out 8).trans rfl; have hfz19_0 := blk_frozen BK105.out 0; have hfz19_1 := blk_frozen BK105.out 1; have hfz19_2 := blk_frozen BK105.out 2; have hfz19_3 := blk_frozen BK105.out 3; have hfz19_4 := blk_frozen BK105.out 4; have hfz19_5 := blk_frozen BK105.out 5; have hfz19_6 := blk_frozen BK105.out 6; have hfz19_7 := blk_frozen BK105.out 7; have hfz19_8 := blk_frozen BK105.out 8))
              go_ret
              exact ⟨by first | rfl | (simp [errW_none, errW_some] <;> rfl) | (simp [*, errW_none, errW_some] <;> rfl), by repeat (first | (with_reducible first | exact HB.out | apply below_alloc | apply pw_below_drewN | apply below_drew1 | refine below_set ?_ GE105.out) | exact HB.out)⟩
            · rw [if_neg c17] at H
              have c17b0 : decide (2147483647 < (a0_6.size : Int)) = false := decide_eq_false c17
              have c17b1 : decide (2147483647 < a0_6.size) = false := decide_eq_false (by omega)
              clear c17
              by_cases c20 : (a0_7.size : Int) > 2147483647
              · rw [if_pos c20] at H
                have c20b0 : decide (2147483647 < (a0_7.size : Int)) = true := decide_eq_true c20
                have c20b1 : decide (2147483647 < a0_7.size) = true := decide_eq_true (by omega)
                clear c20
                obtain rfl := Option.some.inj H
                go_enter Tryd.func6, Tryd.ntmps6
                go_wp2_with (first | ((with_reducible refine gate_dst (N := 1) rfl ?_); refine box_event ?hg (N := 1) ?hd (cs := #[.int .i64 a0_0, .string a0_1, .string a0_2, .string a0_3, .string a0_4, .string a0_5, .string a0_6, .string a0_7, .string a0_8]) (t := 24) ?hr ?_; (case hd => rfl); (case hg => rfl); (case hr => first | (go_simp; done) | (go_simp; rfl)); intro gb105 hg w21 hbox hb; have n0_ := Aside0.mk (below_step (by repeat (first | (with_reducible first | exact HB.out | apply below_alloc | apply pw_below_drewN | apply below_drew1) | exact HB.out)) hb); have n1_ := Aside0.mk (hbox); have n2_ := Aside0.mk ((by rw [hg]; exact (below_size (by repeat (first | (with_reducible first | exact HB.out | apply below_alloc | apply pw_below_drewN | apply below_drew1) | exact HB.out))) : w.heap.size ≤ gb105)); have n3_ := Aside0.mk ((by rw [hg]; exact (below_size (by repeat (first | (with_reducible first | exact HB.out | apply below_alloc | apply pw_below_drewN | apply below_drew1) | exact HB.out))) : w.heap.size ≤ gb105)); clear HB; have HB := n0_; have BK105 := n1_; have GW105 := n2_; have GE105 := n3_; clear n0_ n1_ n2_ n3_; clear hb hbox hg; have hcz22_0 : w21.cell? ⟨gb105, 0, none⟩ = some (.int .i64 a0_0) := (blk_cell BK105.out 0).trans rfl; have hcz22_1 : w21.cell? ⟨gb105, 1, none⟩ = some (.string a0_1) := (blk_cell BK105.out 1).trans rfl; have hcz22_2 : w21.cell? ⟨gb105, 2, none⟩ = some (.string a0_2) := (blk_cell BK105.out 2).trans rfl; have hcz22_3 : w21.cell? ⟨gb105, 3, none⟩ = some (.string a0_3) := (blk_cell BK105.out 3).trans rfl; have hcz22_4 : w21.cell? ⟨gb105, 4, none⟩ = some (.string a0_4) := (blk_cell BK105.out 4).trans rfl; have hcz22_5 : w21.cell? ⟨gb105, 5, none⟩ = some (.string a0_5) := (blk_cell BK105.out 5).trans rfl; have hcz22_6 : w21.cell? ⟨gb105, 6, none⟩ = some (.string a0_6) := (blk_cell BK105.out 6).trans rfl; have hcz22_7 : w21.cell? ⟨gb105, 7, none⟩ = some (.string a0_7) := (blk_cell BK105.out 7).trans rfl; have hcz22_8 : w21.cell? ⟨gb105, 8, none⟩ = some (.string a0_8) := (blk_cell BK105.out 8).trans rfl; have hfz22_0 := blk_frozen BK105.out 0; have hfz22_1 := blk_frozen BK105.out 1; have hfz22_2 := blk_frozen BK105.out 2; have hfz22_3 := blk_frozen BK105.out 3; have hfz22_4 := blk_frozen BK105.out 4; have hfz22_5 := blk_frozen BK105.out 5; have hfz22_6 := blk_frozen BK105.out 6; have hfz22_7 := blk_frozen BK105.out 7; have hfz22_8 := blk_frozen BK105.out 8))
                go_ret
                exact ⟨by first | rfl | (simp [errW_none, errW_some] <;> rfl) | (simp [*, errW_none, errW_some] <;> rfl), by repeat (first | (with_reducible first | exact HB.out | apply below_alloc | apply pw_below_drewN | apply below_drew1 | refine below_set ?_ GE105.out) | exact HB.out)⟩
              · rw [if_neg c20] at H
                have c20b0 : decide (2147483647 < (a0_7.size : Int)) = false := decide_eq_false c20
                have c20b1 : decide (2147483647 < a0_7.size) = false := decide_eq_false (by omega)
                clear c20
                by_cases c23 : (a0_8.size : Int) > 2147483647
                · rw [if_pos c23] at H
                  have c23b0 : decide (2147483647 < (a0_8.size : Int)) = true := decide_eq_true c23
                  have c23b1 : decide (2147483647 < a0_8.size) = true := decide_eq_true (by omega)
                  clear c23
                  obtain rfl := Option.some.inj H
                  go_enter Tryd.func6, Tryd.ntmps6
                  go_wp2_with (first | ((with_reducible refine gate_dst (N := 1) rfl ?_); refine box_event ?hg (N := 1) ?hd (cs := #[.int .i64 a0_0, .string a0_1, .string a0_2, .string a0_3, .string a0_4, .string a0_5, .string a0_6, .string a0_7, .string a0_8]) (t := 24) ?hr ?_; (case hd => rfl); (case hg => rfl); (case hr => first | (go_simp; done) | (go_simp; rfl)); intro gb105 hg w24 hbox hb; have n0_ := Aside0.mk (below_step (by repeat (first | (with_reducible first | exact HB.out | apply below_alloc | apply pw_below_drewN | apply below_drew1) | exact HB.out)) hb); have n1_ := Aside0.mk (hbox); have n2_ := Aside0.mk ((by rw [hg]; exact (below_size (by repeat (first | (with_reducible first | exact HB.out | apply below_alloc | apply pw_below_drewN | apply below_drew1) | exact HB.out))) : w.heap.size ≤ gb105)); have n3_ := Aside0.mk ((by rw [hg]; exact (below_size (by repeat (first | (with_reducible first | exact HB.out | apply below_alloc | apply pw_below_drewN | apply below_drew1) | exact HB.out))) : w.heap.size ≤ gb105)); clear HB; have HB := n0_; have BK105 := n1_; have GW105 := n2_; have GE105 := n3_; clear n0_ n1_ n2_ n3_; clear hb hbox hg; have hcz25_0 : w24.cell? ⟨gb105, 0, none⟩ = some (.int .i64 a0_0) := (blk_cell BK105.out 0).trans rfl; have hcz25_1 : w24.cell? ⟨gb105, 1, none⟩ = some (.string a0_1) := (blk_cell BK105.out 1).trans rfl; have hcz25_2 : w24.cell? ⟨gb105, 2, none⟩ = some (.string a0_2) := (blk_cell BK105.out 2).trans rfl; have hcz25_3 : w24.cell? ⟨gb105, 3, none⟩ = some (.string a0_3) := (blk_cell BK105.out 3).trans rfl; have hcz25_4 : w24.cell? ⟨gb105, 4, none⟩ = some (.string a0_4) := (blk_cell BK105.out 4).trans rfl; have hcz25_5 : w24.cell? ⟨gb105, 5, none⟩ = some (.string a0_5) := (blk_cell BK105.out 5).trans rfl; have hcz25_6 : w24.cell? ⟨gb105, 6, none⟩ = some (.string a0_6) := (blk_cell BK105.out 6).trans rfl; have hcz25_7 : w24.cell? ⟨gb105, 7, none⟩ = some (.string a0_7) := (blk_cell BK105.out 7).trans rfl; have hcz25_8 : w24.cell? ⟨gb105, 8, none⟩ = some (.string a0_8) := (blk_cell BK105.out 8).trans rfl; have hfz25_0 := blk_frozen BK105.out 0; have hfz25_1 := blk_frozen BK105.out 1; have hfz25_2 := blk_frozen BK105.out 2; have hfz25_3 := blk_frozen BK105.out 3; have hfz25_4 := blk_frozen BK105.out 4; have hfz25_5 := blk_frozen BK105.out 5; have hfz25_6 := blk_frozen BK105.out 6; have hfz25_7 := blk_frozen BK105.out 7; have hfz25_8 := blk_frozen BK105.out 8))
                  go_ret
                  exact ⟨by first | rfl | (simp [errW_none, errW_some] <;> rfl) | (simp [*, errW_none, errW_some] <;> rfl), by repeat (first | (with_reducible first | exact HB.out | apply below_alloc | apply pw_below_drewN | apply below_drew1 | refine below_set ?_ GE105.out) | exact HB.out)⟩
                · rw [if_neg c23] at H
                  have c23b0 : decide (2147483647 < (a0_8.size : Int)) = false := decide_eq_false c23
                  have c23b1 : decide (2147483647 < a0_8.size) = false := decide_eq_false (by omega)
                  clear c23
                  obtain rfl := Option.some.inj H
                  go_enter Tryd.func6, Tryd.ntmps6
                  go_wp2_with (first | ((with_reducible refine gate_dst (N := 1) rfl ?_); refine box_event ?hg (N := 1) ?hd (cs := #[.int .i64 a0_0, .string a0_1, .string a0_2, .string a0_3, .string a0_4, .string a0_5, .string a0_6, .string a0_7, .string a0_8]) (t := 24) ?hr ?_; (case hd => rfl); (case hg => rfl); (case hr => first | (go_simp; done) | (go_simp; rfl)); intro gb105 hg w26 hbox hb; have n0_ := Aside0.mk (below_step (by repeat (first | (with_reducible first | exact HB.out | apply below_alloc | apply pw_below_drewN | apply below_drew1) | exact HB.out)) hb); have n1_ := Aside0.mk (hbox); have n2_ := Aside0.mk ((by rw [hg]; exact (below_size (by repeat (first | (with_reducible first | exact HB.out | apply below_alloc | apply pw_below_drewN | apply below_drew1) | exact HB.out))) : w.heap.size ≤ gb105)); have n3_ := Aside0.mk ((by rw [hg]; exact (below_size (by repeat (first | (with_reducible first | exact HB.out | apply below_alloc | apply pw_below_drewN | apply below_drew1) | exact HB.out))) : w.heap.size ≤ gb105)); clear HB; have HB := n0_; have BK105 := n1_; have GW105 := n2_; have GE105 := n3_; clear n0_ n1_ n2_ n3_; clear hb hbox hg; have hcz27_0 : w26.cell? ⟨gb105, 0, none⟩ = some (.int .i64 a0_0) := (blk_cell BK105.out 0).trans rfl; have hcz27_1 : w26.cell? ⟨gb105, 1, none⟩ = some (.string a0_1) := (blk_cell BK105.out 1).trans rfl; have hcz27_2 : w26.cell? ⟨gb105, 2, none⟩ = some (.string a0_2) := (blk_cell BK105.out 2).trans rfl; have hcz27_3 : w26.cell? ⟨gb105, 3, none⟩ = some (.string a0_3) := (blk_cell BK105.out 3).trans rfl; have hcz27_4 : w26.cell? ⟨gb105, 4, none⟩ = some (.string a0_4) := (blk_cell BK105.out 4).trans rfl; have hcz27_5 : w26.cell? ⟨gb105, 5, none⟩ = some (.string a0_5) := (blk_cell BK105.out 5).trans rfl; have hcz27_6 : w26.cell? ⟨gb105, 6, none⟩ = some (.string a0_6) := (blk_cell BK105.out 6).trans rfl; have hcz27_7 : w26.cell? ⟨gb105, 7, none⟩ = some (.string a0_7) := (blk_cell BK105.out 7).trans rfl; have hcz27_8 : w26.cell? ⟨gb105, 8, none⟩ = some (.string a0_8) := (blk_cell BK105.out 8).trans rfl; have hfz27_0 := blk_frozen BK105.out 0; have hfz27_1 := blk_frozen BK105.out 1; have hfz27_2 := blk_frozen BK105.out 2; have hfz27_3 := blk_frozen BK105.out 3; have hfz27_4 := blk_frozen BK105.out 4; have hfz27_5 := blk_frozen BK105.out 5; have hfz27_6 := blk_frozen BK105.out 6; have hfz27_7 := blk_frozen BK105.out 7; have hfz27_8 := blk_frozen BK105.out 8))
                  go_ret
                  exact ⟨by first | rfl | (simp [errW_none, errW_some] <;> rfl) | (simp [*, errW_none, errW_some] <;> rfl), by repeat (first | (with_reducible first | exact HB.out | apply below_alloc | apply pw_below_drewN | apply below_drew1 | refine below_set ?_ GE105.out) | exact HB.out)⟩

-- GIVEN: spec_TxSimple

/-! ### spec_LsRight: function 7 -/
def spec_LsRight.l0 : Nat → List (S36) → List (S36) → Int → Int → Option (Bool)
  | 0, _, _, _, _ => none
  | k + 1, x0, x6, x7, x8 => if x8 < x7 then (if 0 ≤ x8 then (if x8 < (x6.length : Int) then (if x8 > 0 then (if 0 ≤ (wrap64 (x8 - 1)) then (if (wrap64 (x8 - 1)) < (x0.length : Int) then (if ((rd_T36 x6 x8).f1) < 0 then (some false) else (if ((rd_T36 x6 x8).f1) > (wrap64 (((rd_T36 x0 (wrap64 (x8 - 1))).f1) + 1)) then (some false) else (if (((rd_T36 x6 x8).f0).size : Int) > 200 then (some false) else ((spec_TxSimple.f ((rd_T36 x6 x8).f0) false).bind fun t109 => (if t109 = true then (spec_LsRight.l0 k x0 x6 x7 (wrap64 (x8 + 1))) else (some false)))))) else (none)) else (none)) else (if ((rd_T36 x6 x8).f1) < 0 then (some false) else (if ((rd_T36 x6 x8).f1) > 0 then (some false) else (if (((rd_T36 x6 x8).f0).size : Int) > 200 then (some false) else ((spec_TxSimple.f ((rd_T36 x6 x8).f0) false).bind fun t110 => (if t110 = true then (spec_LsRight.l0 k x0 x6 x7 (wrap64 (x8 + 1))) else (some false))))))) else (none)) else (none)) else (some (decide ((x0.length : Int) ≤ 60)))
def spec_LsRight.f (k : Nat) (l0 : List (S36)) : Option (Bool) := spec_LsRight.l0 k l0 l0 (l0.length : Int) 0
theorem spec_LsRight.mono_l : ∀ k, (∀ y0 y1 y2 y3, LeO (spec_LsRight.l0 k y0 y1 y2 y3) (spec_LsRight.l0 (k + 1) y0 y1 y2 y3))
  | 0 => fun _ _ _ _ r h => by simp [spec_LsRight.l0] at h
  | k + 1 => by
    have ih0 := spec_LsRight.mono_l k
    · intro y0 y1 y2 y3
      unfold spec_LsRight.l0
      repeat' first
      | (with_reducible exact ih0 _ _ _ _)
      | (with_reducible exact LeO.refl _)
      | (with_reducible exact LeO.none _)
      | (with_reducible refine LeO.ite ?_ ?_)
      | (with_reducible refine LeO.bind ?_ (fun _ => ?_))
      | exact ih0 _ _ _ _
      | exact LeO.none _
      | refine LeO.ite ?_ ?_
      | refine LeO.bind ?_ (fun _ => ?_)
theorem spec_LsRight.mono : ∀ a0 k, LeO (spec_LsRight.f k a0) (spec_LsRight.f (k + 1) a0) := by
  intro a0 k
  have ih0 := spec_LsRight.mono_l k
  unfold spec_LsRight.f
  repeat' first
      | (with_reducible exact ih0 _ _ _ _)
      | (with_reducible exact LeO.refl _)
      | (with_reducible exact LeO.none _)
      | (with_reducible refine LeO.ite ?_ ?_)
      | (with_reducible refine LeO.bind ?_ (fun _ => ?_))
      | exact ih0 _ _ _ _
      | exact LeO.none _
      | refine LeO.ite ?_ ?_
      | refine LeO.bind ?_ (fun _ => ?_)
set_option maxHeartbeats 8000000 in
set_option maxRecDepth 100000 in
theorem spec_LsRight.calls (k : Nat) (A0 : Option Addr) (c0 : Nat) (l0 : List (S36)) (r : Bool) (w : World) (hr0 : Kd.C k36 w A0 l0.length l0) (hc0 : l0.length ≤ c0) (h : spec_LsRight.f k l0 = some r) :
    Calls Tryd.prog 7 #[.slice A0 l0.length c0] w fun e w' => e = .returned (.bool r) ∧ Below w.heap.size w w' := by
  have hu36 := Tryd.underlying36
  have HR0 := Aside0.mk hr0
  have HC0 := Aside0.mk hc0
  clear hr0 hc0
  have HB := Aside0.mk (Below.refl w.heap.size w)
  have H : (spec_LsRight.l0 k l0 l0 (l0.length : Int) 0) = some r := h
  clear h
  have H' := Aside0.mk H
  clear H
  go_enter Tryd.func7, Tryd.ntmps7
  go_wp2
  go_loopg [8] k (fun kq v8 w' => ∃ (x8_1 : Int), v8 = .int .i64 x8_1 ∧ Aside0 (spec_LsRight.l0 kq l0 l0 (l0.length : Int) x8_1 = some r) ∧ Aside0 (kq ≤ k) ∧ Aside0 (Below w.heap.size w w'))
  case atStart => exact ⟨(0), (by first | rfl | (simp; done) | (simp [*]; done)), H', ⟨Nat.le_refl _⟩, ⟨by repeat (first | (with_reducible first | exact HB.out | apply below_alloc | apply pw_below_drewN | apply below_drew1) | exact HB.out)⟩⟩
  case round =>
    clear H'
    obtain ⟨x8_1, rfl, HA, HK1, HB⟩ := hrel
    cases gk with
    | zero => exact absurd HA.out (by simp [spec_LsRight.l0])
    | succ k1 =>
      have H := HA.out
      clear HA
      simp only [spec_LsRight.l0] at H
      by_cases c2 : x8_1 < (l0.length : Int)
      · rw [if_pos c2] at H
        have c2b0 : decide (x8_1 < (l0.length : Int)) = true := decide_eq_true c2
        clear c2
        by_cases c3 : 0 ≤ x8_1
        · rw [if_pos c3] at H
          have c3b0 : decide (0 ≤ x8_1) = true := decide_eq_true c3
          clear c3
          by_cases c4 : x8_1 < (l0.length : Int)
          · rw [if_pos c4] at H
            have c4b0 : decide (x8_1 < (l0.length : Int)) = true := decide_eq_true c4
            clear c4
            by_cases c5 : x8_1 > 0
            · rw [if_pos c5] at H
              have c5b0 : decide (0 < x8_1) = true := decide_eq_true c5
              clear c5
              obtain ⟨ji6, hji6⟩ : ∃ j_ : Int, (wrap64 (x8_1 - 1)) = j_ := ⟨_, rfl⟩
              replace H : (if 0 ≤ (ji6) then (if (ji6) < (l0.length : Int) then (if ((rd_T36 l0 x8_1).f1) < 0 then (some false) else (if ((rd_T36 l0 x8_1).f1) > (wrap64 (((rd_T36 l0 (ji6)).f1) + 1)) then (some false) else (if (((rd_T36 l0 x8_1).f0).size : Int) > 200 then (some false) else ((spec_TxSimple.f ((rd_T36 l0 x8_1).f0) false).bind fun t109 => (if t109 = true then (spec_LsRight.l0 k1 l0 l0 (l0.length : Int) (wrap64 (x8_1 + 1))) else (some false)))))) else (none)) else (none)) = some r := by first | (rw [hji6] at H; exact H) | (simp only [hji6] at H ⊢; exact H)
              have hji6w : (IntKind.i64.wrap (x8_1 - 1)) = ji6 := (i64_w _).trans hji6
              by_cases c7 : 0 ≤ (ji6)
              · rw [if_pos c7] at H
                have c7b0 : decide (0 ≤ (ji6)) = true := decide_eq_true c7
                clear c7
                by_cases c8 : (ji6) < (l0.length : Int)
                · rw [if_pos c8] at H
                  have c8b0 : decide ((ji6) < (l0.length : Int)) = true := decide_eq_true c8
                  clear c8
                  by_cases c9 : ((rd_T36 l0 x8_1).f1) < 0
                  · rw [if_pos c9] at H
                    have c9b0 : decide (((rd_T36 l0 x8_1).f1) < 0) = true := decide_eq_true c9
                    clear c9
                    obtain rfl := Option.some.inj H
                    have p106 : 0 ≤ (x8_1 : Int) := of_decide_eq_true (by first | (with_reducible assumption) | assumption)
                    have q106 : x8_1 < (l0.length : Int) := of_decide_eq_true (by first | (with_reducible assumption) | assumption)
                    obtain ⟨ad106, e106, hx106_0, hx106_1⟩ := at_T36 HR0.out x8_1 p106 q106
                    cases e106
                    replace hx106_0 := (HB.out.cell (World.block_lt_of_cell? w _ hx106_0)).trans hx106_0
                    replace hx106_1 := (HB.out.cell (World.block_lt_of_cell? w _ hx106_1)).trans hx106_1
                    replace p106 := eq_true p106
                    replace q106 := eq_true q106
                    go_wp2_with (first | ((with_reducible refine gate_dst (N := 4) rfl ?_); (try (refine gate_guard (by rfl) ?_; dsimp only)); refine box_event ?hg (N := 4) ?hd (cs := #[.string (⟨#[]⟩ : ByteArray), .int .i64 0]) (t := 36) ?hr ?_; (case hd => rfl); (case hg => rfl); (case hr => first | (go_simp; done) | (go_simp; rfl)); intro gb107 hg w10 hbox hb; have n0_ := Aside0.mk (below_step (by repeat (first | (with_reducible first | exact HB.out | apply below_alloc | apply pw_below_drewN | apply below_drew1) | exact HB.out)) hb); have n1_ := Aside0.mk (hbox); have n2_ := Aside0.mk ((by rw [hg]; exact (below_size (by repeat (first | (with_reducible first | exact HB.out | apply below_alloc | apply pw_below_drewN | apply below_drew1) | exact HB.out))) : w.heap.size ≤ gb107)); have n3_ := Aside0.mk ((by rw [hg]; exact (below_size (by repeat (first | (with_reducible first | exact HB.out | apply below_alloc | apply pw_below_drewN | apply below_drew1) | exact HB.out))) : w.heap.size ≤ gb107)); clear HB; have HB := n0_; have BK107 := n1_; have GW107 := n2_; have GE107 := n3_; clear n0_ n1_ n2_ n3_; clear hb hbox hg; have hcz11_0 : w10.cell? ⟨gb107, 0, none⟩ = some (.string (⟨#[]⟩ : ByteArray)) := (blk_cell BK107.out 0).trans rfl; have hcz11_1 : w10.cell? ⟨gb107, 1, none⟩ = some (.int .i64 0) := (blk_cell BK107.out 1).trans rfl; have hfz11_0 := blk_frozen BK107.out 0; have hfz11_1 := blk_frozen BK107.out 1; have p108 : 0 ≤ ((ji6) : Int) := of_decide_eq_true (by first | (with_reducible assumption) | assumption); have q108 : (ji6) < (l0.length : Int) := of_decide_eq_true (by first | (with_reducible assumption) | assumption); obtain ⟨ad108, e108, hx108_0, hx108_1⟩ := at_T36 HR0.out (ji6) p108 q108; obtain rfl : ad106 = ad108 := (by injection e108); have hn108_0 : ad106.block ≠ gb107 := Nat.ne_of_lt (Nat.lt_of_lt_of_le (by have := World.block_lt_of_cell? _ _ hx108_0; first | rwa [add_block] at this | exact this) GW107.out); have hn108_1 : ad106.block ≠ gb107 := Nat.ne_of_lt (Nat.lt_of_lt_of_le (by have := World.block_lt_of_cell? _ _ hx108_0; first | rwa [add_block] at this | exact this) GW107.out); replace hx108_0 := (HB.out.cell (World.block_lt_of_cell? w _ hx108_0)).trans hx108_0; replace hx108_1 := (HB.out.cell (World.block_lt_of_cell? w _ hx108_1)).trans hx108_1; replace hx108_0 := (cell_far (p := ⟨gb107, 0, none⟩) (by first | (rw [add_block]; exact hn108_0) | (show (Addr.add _ _).block ≠ _; rw [add_block]; exact hn108_0) | exact hn108_0) (.string ((rd_T36 l0 x8_1).f0))).trans hx108_0; replace hx108_1 := (cell_far (p := ⟨gb107, 0, none⟩) (by first | (rw [add_block]; exact hn108_0) | (show (Addr.add _ _).block ≠ _; rw [add_block]; exact hn108_0) | exact hn108_0) (.string ((rd_T36 l0 x8_1).f0))).trans hx108_1; replace hx108_0 := (cell_far (p := ⟨gb107, 1, none⟩) (by first | (rw [add_block]; exact hn108_1) | (show (Addr.add _ _).block ≠ _; rw [add_block]; exact hn108_1) | exact hn108_1) (.int .i64 ((rd_T36 l0 x8_1).f1))).trans hx108_0; replace hx108_1 := (cell_far (p := ⟨gb107, 1, none⟩) (by first | (rw [add_block]; exact hn108_1) | (show (Addr.add _ _).block ≠ _; rw [add_block]; exact hn108_1) | exact hn108_1) (.int .i64 ((rd_T36 l0 x8_1).f1))).trans hx108_1; clear hn108_0; clear hn108_1; replace p108 := eq_true p108; replace q108 := eq_true q108))
                    go_ret
                    exact ⟨by first | rfl | (simp [errW_none, errW_some] <;> rfl) | (simp only [← hji6]; first | rfl | (simp [errW_none, errW_some] <;> rfl)) | (simp [*, errW_none, errW_some] <;> rfl), by repeat (first | (with_reducible first | exact HB.out | apply below_alloc | apply pw_below_drewN | apply below_drew1 | refine below_set ?_ GE107.out) | exact HB.out)⟩
                  · rw [if_neg c9] at H
                    have c9b0 : decide (((rd_T36 l0 x8_1).f1) < 0) = false := decide_eq_false c9
                    clear c9
                    by_cases c12 : ((rd_T36 l0 x8_1).f1) > (wrap64 (((rd_T36 l0 (ji6)).f1) + 1))
                    · rw [if_pos c12] at H
                      have c12b0 : decide ((wrap64 (((rd_T36 l0 (ji6)).f1) + 1)) < ((rd_T36 l0 x8_1).f1)) = true := decide_eq_true c12
                      clear c12
                      obtain rfl := Option.some.inj H
                      have p106 : 0 ≤ (x8_1 : Int) := of_decide_eq_true (by first | (with_reducible assumption) | assumption)
                      have q106 : x8_1 < (l0.length : Int) := of_decide_eq_true (by first | (with_reducible assumption) | assumption)
                      obtain ⟨ad106, e106, hx106_0, hx106_1⟩ := at_T36 HR0.out x8_1 p106 q106
                      cases e106
                      replace hx106_0 := (HB.out.cell (World.block_lt_of_cell? w _ hx106_0)).trans hx106_0
                      replace hx106_1 := (HB.out.cell (World.block_lt_of_cell? w _ hx106_1)).trans hx106_1
                      replace p106 := eq_true p106
                      replace q106 := eq_true q106
                      go_wp2_with (first | ((with_reducible refine gate_dst (N := 4) rfl ?_); (try (refine gate_guard (by rfl) ?_; dsimp only)); refine box_event ?hg (N := 4) ?hd (cs := #[.string (⟨#[]⟩ : ByteArray), .int .i64 0]) (t := 36) ?hr ?_; (case hd => rfl); (case hg => rfl); (case hr => first | (go_simp; done) | (go_simp; rfl)); intro gb107 hg w13 hbox hb; have n0_ := Aside0.mk (below_step (by repeat (first | (with_reducible first | exact HB.out | apply below_alloc | apply pw_below_drewN | apply below_drew1) | exact HB.out)) hb); have n1_ := Aside0.mk (hbox); have n2_ := Aside0.mk ((by rw [hg]; exact (below_size (by repeat (first | (with_reducible first | exact HB.out | apply below_alloc | apply pw_below_drewN | apply below_drew1) | exact HB.out))) : w.heap.size ≤ gb107)); have n3_ := Aside0.mk ((by rw [hg]; exact (below_size (by repeat (first | (with_reducible first | exact HB.out | apply below_alloc | apply pw_below_drewN | apply below_drew1) | exact HB.out))) : w.heap.size ≤ gb107)); clear HB; have HB := n0_; have BK107 := n1_; have GW107 := n2_; have GE107 := n3_; clear n0_ n1_ n2_ n3_; clear hb hbox hg; have hcz14_0 : w13.cell? ⟨gb107, 0, none⟩ = some (.string (⟨#[]⟩ : ByteArray)) := (blk_cell BK107.out 0).trans rfl; have hcz14_1 : w13.cell? ⟨gb107, 1, none⟩ = some (.int .i64 0) := (blk_cell BK107.out 1).trans rfl; have hfz14_0 := blk_frozen BK107.out 0; have hfz14_1 := blk_frozen BK107.out 1; have p108 : 0 ≤ ((ji6) : Int) := of_decide_eq_true (by first | (with_reducible assumption) | assumption); have q108 : (ji6) < (l0.length : Int) := of_decide_eq_true (by first | (with_reducible assumption) | assumption); obtain ⟨ad108, e108, hx108_0, hx108_1⟩ := at_T36 HR0.out (ji6) p108 q108; obtain rfl : ad106 = ad108 := (by injection e108); have hn108_0 : ad106.block ≠ gb107 := Nat.ne_of_lt (Nat.lt_of_lt_of_le (by have := World.block_lt_of_cell? _ _ hx108_0; first | rwa [add_block] at this | exact this) GW107.out); have hn108_1 : ad106.block ≠ gb107 := Nat.ne_of_lt (Nat.lt_of_lt_of_le (by have := World.block_lt_of_cell? _ _ hx108_0; first | rwa [add_block] at this | exact this) GW107.out); replace hx108_0 := (HB.out.cell (World.block_lt_of_cell? w _ hx108_0)).trans hx108_0; replace hx108_1 := (HB.out.cell (World.block_lt_of_cell? w _ hx108_1)).trans hx108_1; replace hx108_0 := (cell_far (p := ⟨gb107, 0, none⟩) (by first | (rw [add_block]; exact hn108_0) | (show (Addr.add _ _).block ≠ _; rw [add_block]; exact hn108_0) | exact hn108_0) (.string ((rd_T36 l0 x8_1).f0))).trans hx108_0; replace hx108_1 := (cell_far (p := ⟨gb107, 0, none⟩) (by first | (rw [add_block]; exact hn108_0) | (show (Addr.add _ _).block ≠ _; rw [add_block]; exact hn108_0) | exact hn108_0) (.string ((rd_T36 l0 x8_1).f0))).trans hx108_1; replace hx108_0 := (cell_far (p := ⟨gb107, 1, none⟩) (by first | (rw [add_block]; exact hn108_1) | (show (Addr.add _ _).block ≠ _; rw [add_block]; exact hn108_1) | exact hn108_1) (.int .i64 ((rd_T36 l0 x8_1).f1))).trans hx108_0; replace hx108_1 := (cell_far (p := ⟨gb107, 1, none⟩) (by first | (rw [add_block]; exact hn108_1) | (show (Addr.add _ _).block ≠ _; rw [add_block]; exact hn108_1) | exact hn108_1) (.int .i64 ((rd_T36 l0 x8_1).f1))).trans hx108_1; clear hn108_0; clear hn108_1; replace p108 := eq_true p108; replace q108 := eq_true q108))
                      go_ret
                      exact ⟨by first | rfl | (simp [errW_none, errW_some] <;> rfl) | (simp only [← hji6]; first | rfl | (simp [errW_none, errW_some] <;> rfl)) | (simp [*, errW_none, errW_some] <;> rfl), by repeat (first | (with_reducible first | exact HB.out | apply below_alloc | apply pw_below_drewN | apply below_drew1 | refine below_set ?_ GE107.out) | exact HB.out)⟩
                    · rw [if_neg c12] at H
                      have c12b0 : decide ((wrap64 (((rd_T36 l0 (ji6)).f1) + 1)) < ((rd_T36 l0 x8_1).f1)) = false := decide_eq_false c12
                      clear c12
                      by_cases c15 : (((rd_T36 l0 x8_1).f0).size : Int) > 200
                      · rw [if_pos c15] at H
                        have c15b0 : decide (200 < (((rd_T36 l0 x8_1).f0).size : Int)) = true := decide_eq_true c15
                        have c15b1 : decide (200 < ((rd_T36 l0 x8_1).f0).size) = true := decide_eq_true (by omega)
                        clear c15
                        obtain rfl := Option.some.inj H
                        have p106 : 0 ≤ (x8_1 : Int) := of_decide_eq_true (by first | (with_reducible assumption) | assumption)
                        have q106 : x8_1 < (l0.length : Int) := of_decide_eq_true (by first | (with_reducible assumption) | assumption)
                        obtain ⟨ad106, e106, hx106_0, hx106_1⟩ := at_T36 HR0.out x8_1 p106 q106
                        cases e106
                        replace hx106_0 := (HB.out.cell (World.block_lt_of_cell? w _ hx106_0)).trans hx106_0
                        replace hx106_1 := (HB.out.cell (World.block_lt_of_cell? w _ hx106_1)).trans hx106_1
                        replace p106 := eq_true p106
                        replace q106 := eq_true q106
                        go_wp2_with (first | ((with_reducible refine gate_dst (N := 4) rfl ?_); (try (refine gate_guard (by rfl) ?_; dsimp only)); refine box_event ?hg (N := 4) ?hd (cs := #[.string (⟨#[]⟩ : ByteArray), .int .i64 0]) (t := 36) ?hr ?_; (case hd => rfl); (case hg => rfl); (case hr => first | (go_simp; done) | (go_simp; rfl)); intro gb107 hg w16 hbox hb; have n0_ := Aside0.mk (below_step (by repeat (first | (with_reducible first | exact HB.out | apply below_alloc | apply pw_below_drewN | apply below_drew1) | exact HB.out)) hb); have n1_ := Aside0.mk (hbox); have n2_ := Aside0.mk ((by rw [hg]; exact (below_size (by repeat (first | (with_reducible first | exact HB.out | apply below_alloc | apply pw_below_drewN | apply below_drew1) | exact HB.out))) : w.heap.size ≤ gb107)); have n3_ := Aside0.mk ((by rw [hg]; exact (below_size (by repeat (first | (with_reducible first | exact HB.out | apply below_alloc | apply pw_below_drewN | apply below_drew1) | exact HB.out))) : w.heap.size ≤ gb107)); clear HB; have HB := n0_; have BK107 := n1_; have GW107 := n2_; have GE107 := n3_; clear n0_ n1_ n2_ n3_; clear hb hbox hg; have hcz17_0 : w16.cell? ⟨gb107, 0, none⟩ = some (.string (⟨#[]⟩ : ByteArray)) := (blk_cell BK107.out 0).trans rfl; have hcz17_1 : w16.cell? ⟨gb107, 1, none⟩ = some (.int .i64 0) := (blk_cell BK107.out 1).trans rfl; have hfz17_0 := blk_frozen BK107.out 0; have hfz17_1 := blk_frozen BK107.out 1; have p108 : 0 ≤ ((ji6) : Int) := of_decide_eq_true (by first | (with_reducible assumption) | assumption); have q108 : (ji6) < (l0.length : Int) := of_decide_eq_true (by first | (with_reducible assumption) | assumption); obtain ⟨ad108, e108, hx108_0, hx108_1⟩ := at_T36 HR0.out (ji6) p108 q108; obtain rfl : ad106 = ad108 := (by injection e108); have hn108_0 : ad106.block ≠ gb107 := Nat.ne_of_lt (Nat.lt_of_lt_of_le (by have := World.block_lt_of_cell? _ _ hx108_0; first | rwa [add_block] at this | exact this) GW107.out); have hn108_1 : ad106.block ≠ gb107 := Nat.ne_of_lt (Nat.lt_of_lt_of_le (by have := World.block_lt_of_cell? _ _ hx108_0; first | rwa [add_block] at this | exact this) GW107.out); replace hx108_0 := (HB.out.cell (World.block_lt_of_cell? w _ hx108_0)).trans hx108_0; replace hx108_1 := (HB.out.cell (World.block_lt_of_cell? w _ hx108_1)).trans hx108_1; replace hx108_0 := (cell_far (p := ⟨gb107, 0, none⟩) (by first | (rw [add_block]; exact hn108_0) | (show (Addr.add _ _).block ≠ _; rw [add_block]; exact hn108_0) | exact hn108_0) (.string ((rd_T36 l0 x8_1).f0))).trans hx108_0; replace hx108_1 := (cell_far (p := ⟨gb107, 0, none⟩) (by first | (rw [add_block]; exact hn108_0) | (show (Addr.add _ _).block ≠ _; rw [add_block]; exact hn108_0) | exact hn108_0) (.string ((rd_T36 l0 x8_1).f0))).trans hx108_1; replace hx108_0 := (cell_far (p := ⟨gb107, 1, none⟩) (by first | (rw [add_block]; exact hn108_1) | (show (Addr.add _ _).block ≠ _; rw [add_block]; exact hn108_1) | exact hn108_1) (.int .i64 ((rd_T36 l0 x8_1).f1))).trans hx108_0; replace hx108_1 := (cell_far (p := ⟨gb107, 1, none⟩) (by first | (rw [add_block]; exact hn108_1) | (show (Addr.add _ _).block ≠ _; rw [add_block]; exact hn108_1) | exact hn108_1) (.int .i64 ((rd_T36 l0 x8_1).f1))).trans hx108_1; clear hn108_0; clear hn108_1; replace p108 := eq_true p108; replace q108 := eq_true q108))
                        go_ret
                        exact ⟨by first | rfl | (simp [errW_none, errW_some] <;> rfl) | (simp only [← hji6]; first | rfl | (simp [errW_none, errW_some] <;> rfl)) | (simp [*, errW_none, errW_some] <;> rfl), by repeat (first | (with_reducible first | exact HB.out | apply below_alloc | apply pw_below_drewN | apply below_drew1 | refine below_set ?_ GE107.out) | exact HB.out)⟩
                      · rw [if_neg c15] at H
                        have c15b0 : decide (200 < (((rd_T36 l0 x8_1).f0).size : Int)) = false := decide_eq_false c15
                        have c15b1 : decide (200 < ((rd_T36 l0 x8_1).f0).size) = false := decide_eq_false (by omega)
                        clear c15
                        replace H := Option.bind_eq_some_iff.mp H
                        obtain ⟨t109, A180, H⟩ := H
                        replace H : (if t109 = true then (spec_LsRight.l0 k1 l0 l0 (l0.length : Int) (wrap64 (x8_1 + 1))) else (some false)) = some r := H
                        have A18 := Aside0.mk A180
                        clear A180
                        by_cases c19 : t109 = true
                        · subst c19
                          have H1 : (spec_LsRight.l0 k1 l0 l0 (l0.length : Int) (wrap64 (x8_1 + 1))) = some r := by rw [if_pos rfl] at H; exact H
                          clear H
                          have H := H1
                          clear H1
                          have H' := Aside0.mk H
                          clear H
                          have p106 : 0 ≤ (x8_1 : Int) := of_decide_eq_true (by first | (with_reducible assumption) | assumption)
                          have q106 : x8_1 < (l0.length : Int) := of_decide_eq_true (by first | (with_reducible assumption) | assumption)
                          obtain ⟨ad106, e106, hx106_0, hx106_1⟩ := at_T36 HR0.out x8_1 p106 q106
                          cases e106
                          replace hx106_0 := (HB.out.cell (World.block_lt_of_cell? w _ hx106_0)).trans hx106_0
                          replace hx106_1 := (HB.out.cell (World.block_lt_of_cell? w _ hx106_1)).trans hx106_1
                          replace p106 := eq_true p106
                          replace q106 := eq_true q106
                          go_wp2_with (first | ((with_reducible refine gate_dst (N := 4) rfl ?_); (try (refine gate_guard (by rfl) ?_; dsimp only)); refine box_event ?hg (N := 4) ?hd (cs := #[.string (⟨#[]⟩ : ByteArray), .int .i64 0]) (t := 36) ?hr ?_; (case hd => rfl); (case hg => rfl); (case hr => first | (go_simp; done) | (go_simp; rfl)); intro gb107 hg w20 hbox hb; have n0_ := Aside0.mk (below_step (by repeat (first | (with_reducible first | exact HB.out | apply below_alloc | apply pw_below_drewN | apply below_drew1) | exact HB.out)) hb); have n1_ := Aside0.mk (hbox); have n2_ := Aside0.mk ((by rw [hg]; exact (below_size (by repeat (first | (with_reducible first | exact HB.out | apply below_alloc | apply pw_below_drewN | apply below_drew1) | exact HB.out))) : w.heap.size ≤ gb107)); have n3_ := Aside0.mk ((by rw [hg]; exact (below_size (by repeat (first | (with_reducible first | exact HB.out | apply below_alloc | apply pw_below_drewN | apply below_drew1) | exact HB.out))) : w.heap.size ≤ gb107)); clear HB; have HB := n0_; have BK107 := n1_; have GW107 := n2_; have GE107 := n3_; clear n0_ n1_ n2_ n3_; clear hb hbox hg; have hcz21_0 : w20.cell? ⟨gb107, 0, none⟩ = some (.string (⟨#[]⟩ : ByteArray)) := (blk_cell BK107.out 0).trans rfl; have hcz21_1 : w20.cell? ⟨gb107, 1, none⟩ = some (.int .i64 0) := (blk_cell BK107.out 1).trans rfl; have hfz21_0 := blk_frozen BK107.out 0; have hfz21_1 := blk_frozen BK107.out 1; have p108 : 0 ≤ ((ji6) : Int) := of_decide_eq_true (by first | (with_reducible assumption) | assumption); have q108 : (ji6) < (l0.length : Int) := of_decide_eq_true (by first | (with_reducible assumption) | assumption); obtain ⟨ad108, e108, hx108_0, hx108_1⟩ := at_T36 HR0.out (ji6) p108 q108; obtain rfl : ad106 = ad108 := (by injection e108); have hn108_0 : ad106.block ≠ gb107 := Nat.ne_of_lt (Nat.lt_of_lt_of_le (by have := World.block_lt_of_cell? _ _ hx108_0; first | rwa [add_block] at this | exact this) GW107.out); have hn108_1 : ad106.block ≠ gb107 := Nat.ne_of_lt (Nat.lt_of_lt_of_le (by have := World.block_lt_of_cell? _ _ hx108_0; first | rwa [add_block] at this | exact this) GW107.out); replace hx108_0 := (HB.out.cell (World.block_lt_of_cell? w _ hx108_0)).trans hx108_0; replace hx108_1 := (HB.out.cell (World.block_lt_of_cell? w _ hx108_1)).trans hx108_1; replace hx108_0 := (cell_far (p := ⟨gb107, 0, none⟩) (by first | (rw [add_block]; exact hn108_0) | (show (Addr.add _ _).block ≠ _; rw [add_block]; exact hn108_0) | exact hn108_0) (.string ((rd_T36 l0 x8_1).f0))).trans hx108_0; replace hx108_1 := (cell_far (p := ⟨gb107, 0, none⟩) (by first | (rw [add_block]; exact hn108_0) | (show (Addr.add _ _).block ≠ _; rw [add_block]; exact hn108_0) | exact hn108_0) (.string ((rd_T36 l0 x8_1).f0))).trans hx108_1; replace hx108_0 := (cell_far (p := ⟨gb107, 1, none⟩) (by first | (rw [add_block]; exact hn108_1) | (show (Addr.add _ _).block ≠ _; rw [add_block]; exact hn108_1) | exact hn108_1) (.int .i64 ((rd_T36 l0 x8_1).f1))).trans hx108_0; replace hx108_1 := (cell_far (p := ⟨gb107, 1, none⟩) (by first | (rw [add_block]; exact hn108_1) | (show (Addr.add _ _).block ≠ _; rw [add_block]; exact hn108_1) | exact hn108_1) (.int .i64 ((rd_T36 l0 x8_1).f1))).trans hx108_1; clear hn108_0; clear hn108_1; replace p108 := eq_true p108; replace q108 := eq_true q108) | (go_at_call 17; (with_reducible refine (spec_TxSimple.calls ((rd_T36 l0 x8_1).f0) false true _ A18.out).mono ?_); rintro e w22 ⟨rfl, hb⟩; have n0_ := Aside0.mk (blk_below (g := gb107) (o := .cells #[.string ((rd_T36 l0 x8_1).f0), .int .i64 ((rd_T36 l0 x8_1).f1)] 36 (0, 0)) (by (with_reducible repeat (first | refine blk_drewN ?_ _ | refine blk_drew ?_ | refine blk_alloc ?_ _)); refine blk_put (cs := #[.string ((rd_T36 l0 x8_1).f0), .int .i64 0]) ?_ 1 _ rfl; (with_reducible repeat (first | refine blk_drewN ?_ _ | refine blk_drew ?_ | refine blk_alloc ?_ _)); refine blk_put (cs := #[.string (⟨#[]⟩ : ByteArray), .int .i64 0]) ?_ 0 _ rfl; (with_reducible repeat (first | refine blk_drewN ?_ _ | refine blk_drew ?_ | refine blk_alloc ?_ _)); exact BK107.out) hb); have n1_ := Aside0.mk (below_step (by repeat (first | (with_reducible first | exact HB.out | apply below_alloc | apply pw_below_drewN | apply below_drew1 | refine below_set ?_ GE107.out) | exact HB.out)) hb); clear BK107; clear HB; have BK107 := n0_; have HB := n1_; clear n0_ n1_; (try clear hb); (try clear hb2); (try clear hk); (try clear hi)))
                          go_roundg k1
                          case measure => have := HK1.out; omega
                          case rel => exact ⟨(wrap64 (x8_1 + 1)), (by first | rfl | (simp; done) | (simp [*]; done)), H', ⟨by have := HK1.out; omega⟩, ⟨by repeat (first | (with_reducible first | exact HB.out | apply below_alloc | apply pw_below_drewN | apply below_drew1 | refine below_set ?_ GE107.out) | exact HB.out)⟩⟩
                        · replace c19 := Bool.eq_false_iff.mpr c19
                          subst c19
                          have H1 : (some false) = some r := by rw [if_neg (show ¬ (false = true) by decide)] at H; exact H
                          clear H
                          have H := H1
                          clear H1
                          obtain rfl := Option.some.inj H
                          have p106 : 0 ≤ (x8_1 : Int) := of_decide_eq_true (by first | (with_reducible assumption) | assumption)
                          have q106 : x8_1 < (l0.length : Int) := of_decide_eq_true (by first | (with_reducible assumption) | assumption)
                          obtain ⟨ad106, e106, hx106_0, hx106_1⟩ := at_T36 HR0.out x8_1 p106 q106
                          cases e106
                          replace hx106_0 := (HB.out.cell (World.block_lt_of_cell? w _ hx106_0)).trans hx106_0
                          replace hx106_1 := (HB.out.cell (World.block_lt_of_cell? w _ hx106_1)).trans hx106_1
                          replace p106 := eq_true p106
                          replace q106 := eq_true q106
                          go_wp2_with (first | ((with_reducible refine gate_dst (N := 4) rfl ?_); (try (refine gate_guard (by rfl) ?_; dsimp only)); refine box_event ?hg (N := 4) ?hd (cs := #[.string (⟨#[]⟩ : ByteArray), .int .i64 0]) (t := 36) ?hr ?_; (case hd => rfl); (case hg => rfl); (case hr => first | (go_simp; done) | (go_simp; rfl)); intro gb107 hg w23 hbox hb; have n0_ := Aside0.mk (below_step (by repeat (first | (with_reducible first | exact HB.out | apply below_alloc | apply pw_below_drewN | apply below_drew1) | exact HB.out)) hb); have n1_ := Aside0.mk (hbox); have n2_ := Aside0.mk ((by rw [hg]; exact (below_size (by repeat (first | (with_reducible first | exact HB.out | apply below_alloc | apply pw_below_drewN | apply below_drew1) | exact HB.out))) : w.heap.size ≤ gb107)); have n3_ := Aside0.mk ((by rw [hg]; exact (below_size (by repeat (first | (with_reducible first | exact HB.out | apply below_alloc | apply pw_below_drewN | apply below_drew1) | exact HB.out))) : w.heap.size ≤ gb107)); clear HB; have HB := n0_; have BK107 := n1_; have GW107 := n2_; have GE107 := n3_; clear n0_ n1_ n2_ n3_; clear hb hbox hg; have hcz24_0 : w23.cell? ⟨gb107, 0, none⟩ = some (.string (⟨#[]⟩ : ByteArray)) := (blk_cell BK107.out 0).trans rfl; have hcz24_1 : w23.cell? ⟨gb107, 1, none⟩ = some (.int .i64 0) := (blk_cell BK107.out 1).trans rfl; have hfz24_0 := blk_frozen BK107.out 0; have hfz24_1 := blk_frozen BK107.out 1; have p108 : 0 ≤ ((ji6) : Int) := of_decide_eq_true (by first | (with_reducible assumption) | assumption); have q108 : (ji6) < (l0.length : Int) := of_decide_eq_true (by first | (with_reducible assumption) | assumption); obtain ⟨ad108, e108, hx108_0, hx108_1⟩ := at_T36 HR0.out (ji6) p108 q108; obtain rfl : ad106 = ad108 := (by injection e108); have hn108_0 : ad106.block ≠ gb107 := Nat.ne_of_lt (Nat.lt_of_lt_of_le (by have := World.block_lt_of_cell? _ _ hx108_0; first | rwa [add_block] at this | exact this) GW107.out); have hn108_1 : ad106.block ≠ gb107 := Nat.ne_of_lt (Nat.lt_of_lt_of_le (by have := World.block_lt_of_cell? _ _ hx108_0; first | rwa [add_block] at this | exact this) GW107.out); replace hx108_0 := (HB.out.cell (World.block_lt_of_cell? w _ hx108_0)).trans hx108_0; replace hx108_1 := (HB.out.cell (World.block_lt_of_cell? w _ hx108_1)).trans hx108_1; replace hx108_0 := (cell_far (p := ⟨gb107, 0, none⟩) (by first | (rw [add_block]; exact hn108_0) | (show (Addr.add _ _).block ≠ _; rw [add_block]; exact hn108_0) | exact hn108_0) (.string ((rd_T36 l0 x8_1).f0))).trans hx108_0; replace hx108_1 := (cell_far (p := ⟨gb107, 0, none⟩) (by first | (rw [add_block]; exact hn108_0) | (show (Addr.add _ _).block ≠ _; rw [add_block]; exact hn108_0) | exact hn108_0) (.string ((rd_T36 l0 x8_1).f0))).trans hx108_1; replace hx108_0 := (cell_far (p := ⟨gb107, 1, none⟩) (by first | (rw [add_block]; exact hn108_1) | (show (Addr.add _ _).block ≠ _; rw [add_block]; exact hn108_1) | exact hn108_1) (.int .i64 ((rd_T36 l0 x8_1).f1))).trans hx108_0; replace hx108_1 := (cell_far (p := ⟨gb107, 1, none⟩) (by first | (rw [add_block]; exact hn108_1) | (show (Addr.add _ _).block ≠ _; rw [add_block]; exact hn108_1) | exact hn108_1) (.int .i64 ((rd_T36 l0 x8_1).f1))).trans hx108_1; clear hn108_0; clear hn108_1; replace p108 := eq_true p108; replace q108 := eq_true q108) | (go_at_call 17; (with_reducible refine (spec_TxSimple.calls ((rd_T36 l0 x8_1).f0) false false _ A18.out).mono ?_); rintro e w25 ⟨rfl, hb⟩; have n0_ := Aside0.mk (blk_below (g := gb107) (o := .cells #[.string ((rd_T36 l0 x8_1).f0), .int .i64 ((rd_T36 l0 x8_1).f1)] 36 (0, 0)) (by (with_reducible repeat (first | refine blk_drewN ?_ _ | refine blk_drew ?_ | refine blk_alloc ?_ _)); refine blk_put (cs := #[.string ((rd_T36 l0 x8_1).f0), .int .i64 0]) ?_ 1 _ rfl; (with_reducible repeat (first | refine blk_drewN ?_ _ | refine blk_drew ?_ | refine blk_alloc ?_ _)); refine blk_put (cs := #[.string (⟨#[]⟩ : ByteArray), .int .i64 0]) ?_ 0 _ rfl; (with_reducible repeat (first | refine blk_drewN ?_ _ | refine blk_drew ?_ | refine blk_alloc ?_ _)); exact BK107.out) hb); have n1_ := Aside0.mk (below_step (by repeat (first | (with_reducible first | exact HB.out | apply below_alloc | apply pw_below_drewN | apply below_drew1 | refine below_set ?_ GE107.out) | exact HB.out)) hb); clear BK107; clear HB; have BK107 := n0_; have HB := n1_; clear n0_ n1_; (try clear hb); (try clear hb2); (try clear hk); (try clear hi)))
                          go_ret
                          exact ⟨by first | rfl | (simp [errW_none, errW_some] <;> rfl) | (simp only [← hji6]; first | rfl | (simp [errW_none, errW_some] <;> rfl)) | (simp [*, errW_none, errW_some] <;> rfl), by repeat (first | (with_reducible first | exact HB.out | apply below_alloc | apply pw_below_drewN | apply below_drew1 | refine below_set ?_ GE107.out) | exact HB.out)⟩
                · rw [if_neg c8] at H
                  exact absurd H (by simp)
              · rw [if_neg c7] at H
                exact absurd H (by simp)
            · rw [if_neg c5] at H
              have c5b0 : decide (0 < x8_1) = false := decide_eq_false c5
              clear c5
              by_cases c26 : ((rd_T36 l0 x8_1).f1) < 0
              · rw [if_pos c26] at H
                have c26b0 : decide (((rd_T36 l0 x8_1).f1) < 0) = true := decide_eq_true c26
                clear c26
                obtain rfl := Option.some.inj H
                have p106 : 0 ≤ (x8_1 : Int) := of_decide_eq_true (by first | (with_reducible assumption) | assumption)
                have q106 : x8_1 < (l0.length : Int) := of_decide_eq_true (by first | (with_reducible assumption) | assumption)
                obtain ⟨ad106, e106, hx106_0, hx106_1⟩ := at_T36 HR0.out x8_1 p106 q106
                cases e106
                replace hx106_0 := (HB.out.cell (World.block_lt_of_cell? w _ hx106_0)).trans hx106_0
                replace hx106_1 := (HB.out.cell (World.block_lt_of_cell? w _ hx106_1)).trans hx106_1
                replace p106 := eq_true p106
                replace q106 := eq_true q106
                go_wp2_with (first | ((with_reducible refine gate_dst (N := 4) rfl ?_); (try (refine gate_guard (by rfl) ?_; dsimp only)); refine box_event ?hg (N := 4) ?hd (cs := #[.string (⟨#[]⟩ : ByteArray), .int .i64 0]) (t := 36) ?hr ?_; (case hd => rfl); (case hg => rfl); (case hr => first | (go_simp; done) | (go_simp; rfl)); intro gb107 hg w27 hbox hb; have n0_ := Aside0.mk (below_step (by repeat (first | (with_reducible first | exact HB.out | apply below_alloc | apply pw_below_drewN | apply below_drew1) | exact HB.out)) hb); have n1_ := Aside0.mk (hbox); have n2_ := Aside0.mk ((by rw [hg]; exact (below_size (by repeat (first | (with_reducible first | exact HB.out | apply below_alloc | apply pw_below_drewN | apply below_drew1) | exact HB.out))) : w.heap.size ≤ gb107)); have n3_ := Aside0.mk ((by rw [hg]; exact (below_size (by repeat (first | (with_reducible first | exact HB.out | apply below_alloc | apply pw_below_drewN | apply below_drew1) | exact HB.out))) : w.heap.size ≤ gb107)); clear HB; have HB := n0_; have BK107 := n1_; have GW107 := n2_; have GE107 := n3_; clear n0_ n1_ n2_ n3_; clear hb hbox hg; have hcz28_0 : w27.cell? ⟨gb107, 0, none⟩ = some (.string (⟨#[]⟩ : ByteArray)) := (blk_cell BK107.out 0).trans rfl; have hcz28_1 : w27.cell? ⟨gb107, 1, none⟩ = some (.int .i64 0) := (blk_cell BK107.out 1).trans rfl; have hfz28_0 := blk_frozen BK107.out 0; have hfz28_1 := blk_frozen BK107.out 1))
                go_ret
                exact ⟨by first | rfl | (simp [errW_none, errW_some] <;> rfl) | (simp [*, errW_none, errW_some] <;> rfl), by repeat (first | (with_reducible first | exact HB.out | apply below_alloc | apply pw_below_drewN | apply below_drew1 | refine below_set ?_ GE107.out) | exact HB.out)⟩
              · rw [if_neg c26] at H
                have c26b0 : decide (((rd_T36 l0 x8_1).f1) < 0) = false := decide_eq_false c26
                clear c26
                by_cases c29 : ((rd_T36 l0 x8_1).f1) > 0
                · rw [if_pos c29] at H
                  have c29b0 : decide (0 < ((rd_T36 l0 x8_1).f1)) = true := decide_eq_true c29
                  clear c29
                  obtain rfl := Option.some.inj H
                  have p106 : 0 ≤ (x8_1 : Int) := of_decide_eq_true (by first | (with_reducible assumption) | assumption)
                  have q106 : x8_1 < (l0.length : Int) := of_decide_eq_true (by first | (with_reducible assumption) | assumption)
                  obtain ⟨ad106, e106, hx106_0, hx106_1⟩ := at_T36 HR0.out x8_1 p106 q106
                  cases e106
                  replace hx106_0 := (HB.out.cell (World.block_lt_of_cell? w _ hx106_0)).trans hx106_0
                  replace hx106_1 := (HB.out.cell (World.block_lt_of_cell? w _ hx106_1)).trans hx106_1
                  replace p106 := eq_true p106
                  replace q106 := eq_true q106
                  go_wp2_with (first | ((with_reducible refine gate_dst (N := 4) rfl ?_); (try (refine gate_guard (by rfl) ?_; dsimp only)); refine box_event ?hg (N := 4) ?hd (cs := #[.string (⟨#[]⟩ : ByteArray), .int .i64 0]) (t := 36) ?hr ?_; (case hd => rfl); (case hg => rfl); (case hr => first | (go_simp; done) | (go_simp; rfl)); intro gb107 hg w30 hbox hb; have n0_ := Aside0.mk (below_step (by repeat (first | (with_reducible first | exact HB.out | apply below_alloc | apply pw_below_drewN | apply below_drew1) | exact HB.out)) hb); have n1_ := Aside0.mk (hbox); have n2_ := Aside0.mk ((by rw [hg]; exact (below_size (by repeat (first | (with_reducible first | exact HB.out | apply below_alloc | apply pw_below_drewN | apply below_drew1) | exact HB.out))) : w.heap.size ≤ gb107)); have n3_ := Aside0.mk ((by rw [hg]; exact (below_size (by repeat (first | (with_reducible first | exact HB.out | apply below_alloc | apply pw_below_drewN | apply below_drew1) | exact HB.out))) : w.heap.size ≤ gb107)); clear HB; have HB := n0_; have BK107 := n1_; have GW107 := n2_; have GE107 := n3_; clear n0_ n1_ n2_ n3_; clear hb hbox hg; have hcz31_0 : w30.cell? ⟨gb107, 0, none⟩ = some (.string (⟨#[]⟩ : ByteArray)) := (blk_cell BK107.out 0).trans rfl; have hcz31_1 : w30.cell? ⟨gb107, 1, none⟩ = some (.int .i64 0) := (blk_cell BK107.out 1).trans rfl; have hfz31_0 := blk_frozen BK107.out 0; have hfz31_1 := blk_frozen BK107.out 1))
                  go_ret
                  exact ⟨by first | rfl | (simp [errW_none, errW_some] <;> rfl) | (simp [*, errW_none, errW_some] <;> rfl), by repeat (first | (with_reducible first | exact HB.out | apply below_alloc | apply pw_below_drewN | apply below_drew1 | refine below_set ?_ GE107.out) | exact HB.out)⟩
                · rw [if_neg c29] at H
                  have c29b0 : decide (0 < ((rd_T36 l0 x8_1).f1)) = false := decide_eq_false c29
                  clear c29
                  by_cases c32 : (((rd_T36 l0 x8_1).f0).size : Int) > 200
                  · rw [if_pos c32] at H
                    have c32b0 : decide (200 < (((rd_T36 l0 x8_1).f0).size : Int)) = true := decide_eq_true c32
                    have c32b1 : decide (200 < ((rd_T36 l0 x8_1).f0).size) = true := decide_eq_true (by omega)
                    clear c32
                    obtain rfl := Option.some.inj H
                    have p106 : 0 ≤ (x8_1 : Int) := of_decide_eq_true (by first | (with_reducible assumption) | assumption)
                    have q106 : x8_1 < (l0.length : Int) := of_decide_eq_true (by first | (with_reducible assumption) | assumption)
                    obtain ⟨ad106, e106, hx106_0, hx106_1⟩ := at_T36 HR0.out x8_1 p106 q106
                    cases e106
                    replace hx106_0 := (HB.out.cell (World.block_lt_of_cell? w _ hx106_0)).trans hx106_0
                    replace hx106_1 := (HB.out.cell (World.block_lt_of_cell? w _ hx106_1)).trans hx106_1
                    replace p106 := eq_true p106
                    replace q106 := eq_true q106
                    go_wp2_with (first | ((with_reducible refine gate_dst (N := 4) rfl ?_); (try (refine gate_guard (by rfl) ?_; dsimp only)); refine box_event ?hg (N := 4) ?hd (cs := #[.string (⟨#[]⟩ : ByteArray), .int .i64 0]) (t := 36) ?hr ?_; (case hd => rfl); (case hg => rfl); (case hr => first | (go_simp; done) | (go_simp; rfl)); intro gb107 hg w33 hbox hb; have n0_ := Aside0.mk (below_step (by repeat (first | (with_reducible first | exact HB.out | apply below_alloc | apply pw_below_drewN | apply below_drew1) | exact HB.out)) hb); have n1_ := Aside0.mk (hbox); have n2_ := Aside0.mk ((by rw [hg]; exact (below_size (by repeat (first | (with_reducible first | exact HB.out | apply below_alloc | apply pw_below_drewN | apply below_drew1) | exact HB.out))) : w.heap.size ≤ gb107)); have n3_ := Aside0.mk ((by rw [hg]; exact (below_size (by repeat (first | (with_reducible first | exact HB.out | apply below_alloc | apply pw_below_drewN | apply below_drew1) | exact HB.out))) : w.heap.size ≤ gb107)); clear HB; have HB := n0_; have BK107 := n1_; have GW107 := n2_; have GE107 := n3_; clear n0_ n1_ n2_ n3_; clear hb hbox hg; have hcz34_0 : w33.cell? ⟨gb107, 0, none⟩ = some (.string (⟨#[]⟩ : ByteArray)) := (blk_cell BK107.out 0).trans rfl; have hcz34_1 : w33.cell? ⟨gb107, 1, none⟩ = some (.int .i64 0) := (blk_cell BK107.out 1).trans rfl; have hfz34_0 := blk_frozen BK107.out 0; have hfz34_1 := blk_frozen BK107.out 1))
                    go_ret
                    exact ⟨by first | rfl | (simp [errW_none, errW_some] <;> rfl) | (simp [*, errW_none, errW_some] <;> rfl), by repeat (first | (with_reducible first | exact HB.out | apply below_alloc | apply pw_below_drewN | apply below_drew1 | refine below_set ?_ GE107.out) | exact HB.out)⟩
                  · rw [if_neg c32] at H
                    have c32b0 : decide (200 < (((rd_T36 l0 x8_1).f0).size : Int)) = false := decide_eq_false c32
                    have c32b1 : decide (200 < ((rd_T36 l0 x8_1).f0).size) = false := decide_eq_false (by omega)
                    clear c32
                    replace H := Option.bind_eq_some_iff.mp H
                    obtain ⟨t110, A350, H⟩ := H
                    replace H : (if t110 = true then (spec_LsRight.l0 k1 l0 l0 (l0.length : Int) (wrap64 (x8_1 + 1))) else (some false)) = some r := H
                    have A35 := Aside0.mk A350
                    clear A350
                    by_cases c36 : t110 = true
                    · subst c36
                      have H1 : (spec_LsRight.l0 k1 l0 l0 (l0.length : Int) (wrap64 (x8_1 + 1))) = some r := by rw [if_pos rfl] at H; exact H
                      clear H
                      have H := H1
                      clear H1
                      have H' := Aside0.mk H
                      clear H
                      have p106 : 0 ≤ (x8_1 : Int) := of_decide_eq_true (by first | (with_reducible assumption) | assumption)
                      have q106 : x8_1 < (l0.length : Int) := of_decide_eq_true (by first | (with_reducible assumption) | assumption)
                      obtain ⟨ad106, e106, hx106_0, hx106_1⟩ := at_T36 HR0.out x8_1 p106 q106
                      cases e106
                      replace hx106_0 := (HB.out.cell (World.block_lt_of_cell? w _ hx106_0)).trans hx106_0
                      replace hx106_1 := (HB.out.cell (World.block_lt_of_cell? w _ hx106_1)).trans hx106_1
                      replace p106 := eq_true p106
                      replace q106 := eq_true q106
                      go_wp2_with (first | ((with_reducible refine gate_dst (N := 4) rfl ?_); (try (refine gate_guard (by rfl) ?_; dsimp only)); refine box_event ?hg (N := 4) ?hd (cs := #[.string (⟨#[]⟩ : ByteArray), .int .i64 0]) (t := 36) ?hr ?_; (case hd => rfl); (case hg => rfl); (case hr => first | (go_simp; done) | (go_simp; rfl)); intro gb107 hg w37 hbox hb; have n0_ := Aside0.mk (below_step (by repeat (first | (with_reducible first | exact HB.out | apply below_alloc | apply pw_below_drewN | apply below_drew1) | exact HB.out)) hb); have n1_ := Aside0.mk (hbox); have n2_ := Aside0.mk ((by rw [hg]; exact (below_size (by repeat (first | (with_reducible first | exact HB.out | apply below_alloc | apply pw_below_drewN | apply below_drew1) | exact HB.out))) : w.heap.size ≤ gb107)); have n3_ := Aside0.mk ((by rw [hg]; exact (below_size (by repeat (first | (with_reducible first | exact HB.out | apply below_alloc | apply pw_below_drewN | apply below_drew1) | exact HB.out))) : w.heap.size ≤ gb107)); clear HB; have HB := n0_; have BK107 := n1_; have GW107 := n2_; have GE107 := n3_; clear n0_ n1_ n2_ n3_; clear hb hbox hg; have hcz38_0 : w37.cell? ⟨gb107, 0, none⟩ = some (.string (⟨#[]⟩ : ByteArray)) := (blk_cell BK107.out 0).trans rfl; have hcz38_1 : w37.cell? ⟨gb107, 1, none⟩ = some (.int .i64 0) := (blk_cell BK107.out 1).trans rfl; have hfz38_0 := blk_frozen BK107.out 0; have hfz38_1 := blk_frozen BK107.out 1) | (go_at_call 17; (with_reducible refine (spec_TxSimple.calls ((rd_T36 l0 x8_1).f0) false true _ A35.out).mono ?_); rintro e w39 ⟨rfl, hb⟩; have n0_ := Aside0.mk (blk_below (g := gb107) (o := .cells #[.string ((rd_T36 l0 x8_1).f0), .int .i64 ((rd_T36 l0 x8_1).f1)] 36 (0, 0)) (by (with_reducible repeat (first | refine blk_drewN ?_ _ | refine blk_drew ?_ | refine blk_alloc ?_ _)); refine blk_put (cs := #[.string ((rd_T36 l0 x8_1).f0), .int .i64 0]) ?_ 1 _ rfl; (with_reducible repeat (first | refine blk_drewN ?_ _ | refine blk_drew ?_ | refine blk_alloc ?_ _)); refine blk_put (cs := #[.string (⟨#[]⟩ : ByteArray), .int .i64 0]) ?_ 0 _ rfl; (with_reducible repeat (first | refine blk_drewN ?_ _ | refine blk_drew ?_ | refine blk_alloc ?_ _)); exact BK107.out) hb); have n1_ := Aside0.mk (below_step (by repeat (first | (with_reducible first | exact HB.out | apply below_alloc | apply pw_below_drewN | apply below_drew1 | refine below_set ?_ GE107.out) | exact HB.out)) hb); clear BK107; clear HB; have BK107 := n0_; have HB := n1_; clear n0_ n1_; (try clear hb); (try clear hb2); (try clear hk); (try clear hi)))
                      go_roundg k1
                      case measure => have := HK1.out; omega
                      case rel => exact ⟨(wrap64 (x8_1 + 1)), (by first | rfl | (simp; done) | (simp [*]; done)), H', ⟨by have := HK1.out; omega⟩, ⟨by repeat (first | (with_reducible first | exact HB.out | apply below_alloc | apply pw_below_drewN | apply below_drew1 | refine below_set ?_ GE107.out) | exact HB.out)⟩⟩
                    · replace c36 := Bool.eq_false_iff.mpr c36
                      subst c36
                      have H1 : (some false) = some r := by rw [if_neg (show ¬ (false = true) by decide)] at H; exact H
                      clear H
                      have H := H1
                      clear H1
                      obtain rfl := Option.some.inj H
                      have p106 : 0 ≤ (x8_1 : Int) := of_decide_eq_true (by first | (with_reducible assumption) | assumption)
                      have q106 : x8_1 < (l0.length : Int) := of_decide_eq_true (by first | (with_reducible assumption) | assumption)
                      obtain ⟨ad106, e106, hx106_0, hx106_1⟩ := at_T36 HR0.out x8_1 p106 q106
                      cases e106
                      replace hx106_0 := (HB.out.cell (World.block_lt_of_cell? w _ hx106_0)).trans hx106_0
                      replace hx106_1 := (HB.out.cell (World.block_lt_of_cell? w _ hx106_1)).trans hx106_1
                      replace p106 := eq_true p106
                      replace q106 := eq_true q106
                      go_wp2_with (first | ((with_reducible refine gate_dst (N := 4) rfl ?_); (try (refine gate_guard (by rfl) ?_; dsimp only)); refine box_event ?hg (N := 4) ?hd (cs := #[.string (⟨#[]⟩ : ByteArray), .int .i64 0]) (t := 36) ?hr ?_; (case hd => rfl); (case hg => rfl); (case hr => first | (go_simp; done) | (go_simp; rfl)); intro gb107 hg w40 hbox hb; have n0_ := Aside0.mk (below_step (by repeat (first | (with_reducible first | exact HB.out | apply below_alloc | apply pw_below_drewN | apply below_drew1) | exact HB.out)) hb); have n1_ := Aside0.mk (hbox); have n2_ := Aside0.mk ((by rw [hg]; exact (below_size (by repeat (first | (with_reducible first | exact HB.out | apply below_alloc | apply pw_below_drewN | apply below_drew1) | exact HB.out))) : w.heap.size ≤ gb107)); have n3_ := Aside0.mk ((by rw [hg]; exact (below_size (by repeat (first | (with_reducible first | exact HB.out | apply below_alloc | apply pw_below_drewN | apply below_drew1) | exact HB.out))) : w.heap.size ≤ gb107)); clear HB; have HB := n0_; have BK107 := n1_; have GW107 := n2_; have GE107 := n3_; clear n0_ n1_ n2_ n3_; clear hb hbox hg; have hcz41_0 : w40.cell? ⟨gb107, 0, none⟩ = some (.string (⟨#[]⟩ : ByteArray)) := (blk_cell BK107.out 0).trans rfl; have hcz41_1 : w40.cell? ⟨gb107, 1, none⟩ = some (.int .i64 0) := (blk_cell BK107.out 1).trans rfl; have hfz41_0 := blk_frozen BK107.out 0; have hfz41_1 := blk_frozen BK107.out 1) | (go_at_call 17; (with_reducible refine (spec_TxSimple.calls ((rd_T36 l0 x8_1).f0) false false _ A35.out).mono ?_); rintro e w42 ⟨rfl, hb⟩; have n0_ := Aside0.mk (blk_below (g := gb107) (o := .cells #[.string ((rd_T36 l0 x8_1).f0), .int .i64 ((rd_T36 l0 x8_1).f1)] 36 (0, 0)) (by (with_reducible repeat (first | refine blk_drewN ?_ _ | refine blk_drew ?_ | refine blk_alloc ?_ _)); refine blk_put (cs := #[.string ((rd_T36 l0 x8_1).f0), .int .i64 0]) ?_ 1 _ rfl; (with_reducible repeat (first | refine blk_drewN ?_ _ | refine blk_drew ?_ | refine blk_alloc ?_ _)); refine blk_put (cs := #[.string (⟨#[]⟩ : ByteArray), .int .i64 0]) ?_ 0 _ rfl; (with_reducible repeat (first | refine blk_drewN ?_ _ | refine blk_drew ?_ | refine blk_alloc ?_ _)); exact BK107.out) hb); have n1_ := Aside0.mk (below_step (by repeat (first | (with_reducible first | exact HB.out | apply below_alloc | apply pw_below_drewN | apply below_drew1 | refine below_set ?_ GE107.out) | exact HB.out)) hb); clear BK107; clear HB; have BK107 := n0_; have HB := n1_; clear n0_ n1_; (try clear hb); (try clear hb2); (try clear hk); (try clear hi)))
                      go_ret
                      exact ⟨by first | rfl | (simp [errW_none, errW_some] <;> rfl) | (simp [*, errW_none, errW_some] <;> rfl), by repeat (first | (with_reducible first | exact HB.out | apply below_alloc | apply pw_below_drewN | apply below_drew1 | refine below_set ?_ GE107.out) | exact HB.out)⟩
          · rw [if_neg c4] at H
            exact absurd H (by simp)
        · rw [if_neg c3] at H
          exact absurd H (by simp)
      · rw [if_neg c2] at H
        have c2b0 : decide (x8_1 < (l0.length : Int)) = false := decide_eq_false c2
        clear c2
        obtain rfl := Option.some.inj H
        go_wp2
        go_ret
        exact ⟨by first | rfl | (simp [errW_none, errW_some] <;> rfl) | (simp [*, errW_none, errW_some] <;> rfl), by repeat (first | (with_reducible first | exact HB.out | apply below_alloc | apply pw_below_drewN | apply below_drew1) | exact HB.out)⟩

-- GIVEN: spec_LsStyled

-- GIVEN: impl_ListRender

end Go.Proofs.YtphnnbbgcnilgaaDoor.GFnListFormat
