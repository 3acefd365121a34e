-- printed by a program of this session (gprint.py) out of the translation; Lean checks it
import Derived.Test.YtkfkhafmgndgaaaRRDoorGTx0
import Derived.Test.YtkfkhafmgndgaaaRRDoorGTx1
import Derived.Test.YtkfkhafmgndgaaaRRDoorGTx2
import Derived.Test.YtkfkhafmgndgaaaRRDoorGiven
import Derived.Test.YtkfkhafmgndgaaaRRDoorGiven2
namespace Go.Proofs.YtkfkhafmgndgaaaRRDoor.GT
open Go.RowKit Go.Proofs.YtkfkhafmgndgaaaRRDoorW.PrintWords Go.Proofs.YtkfkhafmgndgaaaRRDoorW.PrintLast Go.Proofs.YtkfkhafmgndgaaaRRDoor.Given Go.Proofs.YtkfkhafmgndgaaaRRDoor.Given2 Go.Proofs.YtkfkhafmgndgaaaRRDoorW.PrintMore
attribute [local go_sem] max2_int min2_int max_two min_two max_three min_three max_four min_four   -- for this text's walks alone
set_option linter.unusedVariables false
set_option linter.unusedSimpArgs false

/-! ### spec_TxGood: function 14 -/
mutual
def spec_TxGood.l0 : Nat → List (S46) → Bool → List (S46) → Int → Int → Option (Bool)
  | 0, _, _, _, _, _ => none
  | k + 1, x0, x1, x9, x10, x11 => if x11 < x10 then (if 0 ≤ x11 then (if x11 < (x9.length : Int) then ((spec_TxSimple.f ((rd_T46 x9 x11).f1) x1).bind fun t117 => (if t117 = true then (if (((rd_T46 x9 x11).f1).size : Int) > 500 then (spec_TxGood.j1 k x0 x1 x9 x10 x11 true ((rd_T46 x9 x11).f0) ((rd_T46 x9 x11).f1)) else (spec_TxGood.j1 k x0 x1 x9 x10 x11 (decide ((((rd_T46 x9 x11).f0).length : Int) > 4)) ((rd_T46 x9 x11).f0) ((rd_T46 x9 x11).f1))) else (spec_TxGood.j1 k x0 x1 x9 x10 x11 true ((rd_T46 x9 x11).f0) ((rd_T46 x9 x11).f1)))) else (none)) else (none)) else (some (decide ((x0.length : Int) ≤ 40)))
def spec_TxGood.j1 : Nat → List (S46) → Bool → List (S46) → Int → Int → Bool → List Int → ByteArray → Option (Bool)
  | 0, _, _, _, _, _, _, _, _ => none
  | k + 1, x0, x1, x9, x10, x11, x31, x117000, x117001 => if x31 = true then (some false) else (spec_TxGood.l1 k x0 x1 x9 x10 x11 x117000 (x117000.length : Int) 0 x117000 x117001)
def spec_TxGood.l1 : Nat → List (S46) → Bool → List (S46) → Int → Int → List Int → Int → Int → List Int → ByteArray → Option (Bool)
  | 0, _, _, _, _, _, _, _, _, _, _ => none
  | k + 1, x0, x1, x9, x10, x11, x33, x34, x35, x117000, x117001 => if x35 < x34 then (if 0 ≤ x35 then (if x35 < (x33.length : Int) then ((spec_TxAttribute.f (rd x33 x35)).bind fun t119 => (if t119 = true then (spec_TxGood.l1 k x0 x1 x9 x10 x11 x33 x34 (wrap64 (x35 + 1)) x117000 x117001) else (if (rd x33 x35) = 0 then (if (x117000.length : Int) > 1 then (some false) else (spec_TxGood.l1 k x0 x1 x9 x10 x11 x33 x34 (wrap64 (x35 + 1)) x117000 x117001)) else (some false)))) else (none)) else (none)) else (spec_TxGood.l0 k x0 x1 x9 x10 (wrap64 (x11 + 1)))
end
def spec_TxGood.f (k : Nat) (l0 : List (S46)) (a1 : Bool) : Option (Bool) := spec_TxGood.l0 k l0 a1 l0 (l0.length : Int) 0
theorem spec_TxGood.mono_l : ∀ k, (∀ y0 y1 y2 y3 y4, LeO (spec_TxGood.l0 k y0 y1 y2 y3 y4) (spec_TxGood.l0 (k + 1) y0 y1 y2 y3 y4)) ∧ (∀ y0 y1 y2 y3 y4 y5 y6 y7, LeO (spec_TxGood.j1 k y0 y1 y2 y3 y4 y5 y6 y7) (spec_TxGood.j1 (k + 1) y0 y1 y2 y3 y4 y5 y6 y7)) ∧ (∀ y0 y1 y2 y3 y4 y5 y6 y7 y8 y9, LeO (spec_TxGood.l1 k y0 y1 y2 y3 y4 y5 y6 y7 y8 y9) (spec_TxGood.l1 (k + 1) y0 y1 y2 y3 y4 y5 y6 y7 y8 y9))
  | 0 => ⟨fun _ _ _ _ _ r h => by simp [spec_TxGood.l0] at h, fun _ _ _ _ _ _ _ _ r h => by simp [spec_TxGood.j1] at h, fun _ _ _ _ _ _ _ _ _ _ r h => by simp [spec_TxGood.l1] at h⟩
  | k + 1 => by
    obtain ⟨ih0, ih1, ih2⟩ := spec_TxGood.mono_l k
    refine ⟨?_, ?_, ?_⟩
    · intro y0 y1 y2 y3 y4
      unfold spec_TxGood.l0
      repeat' first
      | (with_reducible exact ih0 _ _ _ _ _)
      | (with_reducible exact ih1 _ _ _ _ _ _ _ _)
      | (with_reducible exact ih2 _ _ _ _ _ _ _ _ _ _)
      | (with_reducible exact LeO.refl _)
      | (with_reducible exact LeO.none _)
      | (with_reducible refine LeO.ite ?_ ?_)
      | (with_reducible refine LeO.bind ?_ (fun _ => ?_))
      | exact ih0 _ _ _ _ _
      | exact ih1 _ _ _ _ _ _ _ _
      | exact ih2 _ _ _ _ _ _ _ _ _ _
      | exact LeO.none _
      | refine LeO.ite ?_ ?_
      | refine LeO.bind ?_ (fun _ => ?_)
    · intro y0 y1 y2 y3 y4 y5 y6 y7
      unfold spec_TxGood.j1
      repeat' first
      | (with_reducible exact ih0 _ _ _ _ _)
      | (with_reducible exact ih1 _ _ _ _ _ _ _ _)
      | (with_reducible exact ih2 _ _ _ _ _ _ _ _ _ _)
      | (with_reducible exact LeO.refl _)
      | (with_reducible exact LeO.none _)
      | (with_reducible refine LeO.ite ?_ ?_)
      | (with_reducible refine LeO.bind ?_ (fun _ => ?_))
      | exact ih0 _ _ _ _ _
      | exact ih1 _ _ _ _ _ _ _ _
      | exact ih2 _ _ _ _ _ _ _ _ _ _
      | exact LeO.none _
      | refine LeO.ite ?_ ?_
      | refine LeO.bind ?_ (fun _ => ?_)
    · intro y0 y1 y2 y3 y4 y5 y6 y7 y8 y9
      unfold spec_TxGood.l1
      repeat' first
      | (with_reducible exact ih0 _ _ _ _ _)
      | (with_reducible exact ih1 _ _ _ _ _ _ _ _)
      | (with_reducible exact ih2 _ _ _ _ _ _ _ _ _ _)
      | (with_reducible exact LeO.refl _)
      | (with_reducible exact LeO.none _)
      | (with_reducible refine LeO.ite ?_ ?_)
      | (with_reducible refine LeO.bind ?_ (fun _ => ?_))
      | exact ih0 _ _ _ _ _
      | exact ih1 _ _ _ _ _ _ _ _
      | exact ih2 _ _ _ _ _ _ _ _ _ _
      | exact LeO.none _
      | refine LeO.ite ?_ ?_
      | refine LeO.bind ?_ (fun _ => ?_)
theorem spec_TxGood.mono : ∀ a0 a1 k, LeO (spec_TxGood.f k a0 a1) (spec_TxGood.f (k + 1) a0 a1) := by
  intro a0 a1 k
  obtain ⟨ih0, ih1, ih2⟩ := spec_TxGood.mono_l k
  unfold spec_TxGood.f
  repeat' first
      | (with_reducible exact ih0 _ _ _ _ _)
      | (with_reducible exact ih1 _ _ _ _ _ _ _ _)
      | (with_reducible exact ih2 _ _ _ _ _ _ _ _ _ _)
      | (with_reducible exact LeO.refl _)
      | (with_reducible exact LeO.none _)
      | (with_reducible refine LeO.ite ?_ ?_)
      | (with_reducible refine LeO.bind ?_ (fun _ => ?_))
      | exact ih0 _ _ _ _ _
      | exact ih1 _ _ _ _ _ _ _ _
      | exact ih2 _ _ _ _ _ _ _ _ _ _
      | exact LeO.none _
      | refine LeO.ite ?_ ?_
      | refine LeO.bind ?_ (fun _ => ?_)
set_option maxHeartbeats 8000000 in
set_option maxRecDepth 100000 in
theorem spec_TxGood.calls (k : Nat) (A0 : Option Addr) (c0 : Nat) (l0 : List (S46)) (a1 : Bool) (r : Bool) (w : World) (hr0 : Kd.C k46 w A0 l0.length l0) (hc0 : l0.length ≤ c0) (h : spec_TxGood.f k l0 a1 = some r) :
    Calls Tryd.prog 14 #[.slice A0 l0.length c0, .bool a1] w fun e w' => e = .returned (.bool r) ∧ Below w.heap.size w w' := by
  have hu46 := Tryd.underlying46
  have HR0 := Aside0.mk hr0
  have HC0 := Aside0.mk hc0
  clear hr0 hc0
  have HB := Aside0.mk (Below.refl w.heap.size w)
  have H : (spec_TxGood.l0 k l0 a1 l0 (l0.length : Int) 0) = some r := h
  clear h
  have H' := Aside0.mk H
  clear H
  go_enter Tryd.func14, Tryd.ntmps14
  go_wp2
  go_loopg [11] k (fun kq v11 w' => ∃ (x11_1 : Int), v11 = .int .i64 x11_1 ∧ Aside0 (spec_TxGood.l0 kq l0 a1 l0 (l0.length : Int) x11_1 = some r) ∧ Aside0 (kq ≤ k) ∧ Aside0 (Below w.heap.size w w'))
  case atStart => exact ⟨(0), (by first | rfl | (simp; done) | (simp [*]; done)), H', ⟨Nat.le_refl _⟩, ⟨by repeat (first | (with_reducible first | exact HB.out | apply below_alloc | apply pw_below_drewN | apply below_drew1) | exact HB.out)⟩⟩
  case round =>
    clear H'
    try clear c1
    try clear p2
    obtain ⟨x11_1, rfl, HA, HK1, HB⟩ := hrel
    cases gk with
    | zero => exact absurd HA.out (by simp [spec_TxGood.l0])
    | succ k1 =>
      have H := HA.out
      clear HA
      simp only [spec_TxGood.l0] at H
      by_cases c3 : x11_1 < (l0.length : Int)
      · rw [if_pos c3] at H
        have c3b0 : decide (x11_1 < (l0.length : Int)) = true := decide_eq_true c3
        clear c3
        by_cases c4 : 0 ≤ x11_1
        · rw [if_pos c4] at H
          have c4b0 : decide (0 ≤ x11_1) = true := decide_eq_true c4
          clear c4
          by_cases c5 : x11_1 < (l0.length : Int)
          · rw [if_pos c5] at H
            have c5b0 : decide (x11_1 < (l0.length : Int)) = true := decide_eq_true c5
            clear c5
            have HC6 := Aside0.mk H
            clear H
            have p115 : 0 ≤ (x11_1 : Int) := of_decide_eq_true (by first | (with_reducible assumption) | assumption)
            have q115 : x11_1 < (l0.length : Int) := of_decide_eq_true (by first | (with_reducible assumption) | assumption)
            obtain ⟨ad115, A115_0, c115_0, e115, hx115_0, hx115_1, hl115_0, hi115_0⟩ := at_T46 HR0.out x11_1 p115 q115
            cases e115
            replace hx115_0 := (HB.out.cell (World.block_lt_of_cell? w _ hx115_0)).trans hx115_0
            replace hx115_1 := (HB.out.cell (World.block_lt_of_cell? w _ hx115_1)).trans hx115_1
            have HR115_0 := Aside0.mk hi115_0
            have HC115_0 := Aside0.mk hl115_0
            clear hi115_0 hl115_0
            replace p115 := eq_true p115
            replace q115 := eq_true q115
            go_upto_region 4 with (first | ((with_reducible refine gate_dst (N := 6) rfl ?_); (try (refine gate_guard (by rfl) ?_; dsimp only)); refine box_event ?hg (N := 6) ?hd (cs := #[.slice none 0 0, .string (⟨#[]⟩ : ByteArray)]) (t := 46) ?hr ?_; (case hd => rfl); (case hg => rfl); (case hr => first | (go_simp; done) | (go_simp; rfl)); intro gb116 hg w7 hbox hb; have n0_ := Aside0.mk (below_step (by repeat (first | (with_reducible first | exact HB.out | apply below_alloc | apply pw_below_drewN | apply below_drew1) | exact HB.out)) hb); have n1_ := Aside0.mk (hbox); have n2_ := Aside0.mk ((by rw [hg]; exact (below_size (by repeat (first | (with_reducible first | exact HB.out | apply below_alloc | apply pw_below_drewN | apply below_drew1) | exact HB.out))) : w.heap.size ≤ gb116)); have n3_ := Aside0.mk ((by rw [hg]; exact (below_size (by repeat (first | (with_reducible first | exact HB.out | apply below_alloc | apply pw_below_drewN | apply below_drew1) | exact HB.out))) : w.heap.size ≤ gb116)); clear HB; have HB := n0_; have BK116 := n1_; have GW116 := n2_; have GE116 := n3_; clear n0_ n1_ n2_ n3_; clear hb hbox hg; have hcz8_0 : w7.cell? ⟨gb116, 0, none⟩ = some (.slice none 0 0) := (blk_cell BK116.out 0).trans rfl; have hcz8_1 : w7.cell? ⟨gb116, 1, none⟩ = some (.string (⟨#[]⟩ : ByteArray)) := (blk_cell BK116.out 1).trans rfl; have hfz8_0 := blk_frozen BK116.out 0; have hfz8_1 := blk_frozen BK116.out 1))
            (try simp only [Act.put, List.setIfInBounds_toArray, List.set_cons_zero, List.set_cons_succ])
            go_cut [31] (fun v31 wc => ∃ (kq : Nat) (x31_5 : Bool), v31 = .bool x31_5 ∧ Aside0 (spec_TxGood.j1 kq l0 a1 l0 (l0.length : Int) x11_1 x31_5 ((rd_T46 l0 x11_1).f0) ((rd_T46 l0 x11_1).f1) = some r) ∧ Aside0 (kq ≤ k1) ∧ Aside0 (wc.heap[gb116]? = some (.cells #[(.slice A115_0 ((rd_T46 l0 x11_1).f0).length c115_0), .string ((rd_T46 l0 x11_1).f1)] 46 (0, 0))) ∧ Aside0 (Below w.heap.size w wc))
            case first =>
              have H := HC6.out
              clear HC6
              replace H := Option.bind_eq_some_iff.mp H
              obtain ⟨t117, A90, H⟩ := H
              replace H : (if t117 = true then (if (((rd_T46 l0 x11_1).f1).size : Int) > 500 then (spec_TxGood.j1 k1 l0 a1 l0 (l0.length : Int) x11_1 true ((rd_T46 l0 x11_1).f0) ((rd_T46 l0 x11_1).f1)) else (spec_TxGood.j1 k1 l0 a1 l0 (l0.length : Int) x11_1 (decide ((((rd_T46 l0 x11_1).f0).length : Int) > 4)) ((rd_T46 l0 x11_1).f0) ((rd_T46 l0 x11_1).f1))) else (spec_TxGood.j1 k1 l0 a1 l0 (l0.length : Int) x11_1 true ((rd_T46 l0 x11_1).f0) ((rd_T46 l0 x11_1).f1))) = some r := H
              have A9 := Aside0.mk A90
              clear A90
              by_cases c10 : t117 = true
              · subst c10
                have H1 : (if (((rd_T46 l0 x11_1).f1).size : Int) > 500 then (spec_TxGood.j1 k1 l0 a1 l0 (l0.length : Int) x11_1 true ((rd_T46 l0 x11_1).f0) ((rd_T46 l0 x11_1).f1)) else (spec_TxGood.j1 k1 l0 a1 l0 (l0.length : Int) x11_1 (decide ((((rd_T46 l0 x11_1).f0).length : Int) > 4)) ((rd_T46 l0 x11_1).f0) ((rd_T46 l0 x11_1).f1))) = some r := by rw [if_pos rfl] at H; exact H
                clear H
                have H := H1
                clear H1
                by_cases c11 : (((rd_T46 l0 x11_1).f1).size : Int) > 500
                · rw [if_pos c11] at H
                  have c11b0 : decide (500 < (((rd_T46 l0 x11_1).f1).size : Int)) = true := decide_eq_true c11
                  have c11b1 : decide (500 < ((rd_T46 l0 x11_1).f1).size) = true := decide_eq_true (by omega)
                  clear c11
                  (first | rw [c11b0] | (simp only [i64_w, i32_w]; rw [c11b0]) | skip)
                  have H' := Aside0.mk H
                  clear H
                  have hcz12_0 : w7.cell? ⟨gb116, 0, none⟩ = some (.slice none 0 0) := (blk_cell BK116.out 0).trans rfl
                  have hcz12_1 : w7.cell? ⟨gb116, 1, none⟩ = some (.string (⟨#[]⟩ : ByteArray)) := (blk_cell BK116.out 1).trans rfl
                  have hfz12_0 := blk_frozen BK116.out 0
                  have hfz12_1 := blk_frozen BK116.out 1
                  go_wp2_with (first | ((with_reducible refine gate_callee (f := 27) rfl ?_); refine goesL_ (some 18) rfl rfl Tryd.func27 (by kernel_rfl) rfl #[.string ((rd_T46 l0 x11_1).f1), .bool a1] rfl (by (try simp only [List.map_toArray, List.map_cons, List.map_nil]); first | done | rfl | (simp only [List.length_drop, List.length_take]; rfl)) ?_; (with_reducible refine (spec_TxSimple.calls ((rd_T46 l0 x11_1).f1) a1 true _ A9.out).mono ?_); rintro e w13 ⟨rfl, hb⟩; refine ⟨_, rfl, ?_⟩; have n0_ := Aside0.mk (blk_below (g := gb116) (o := .cells #[.slice A115_0 ((rd_T46 l0 x11_1).f0).length c115_0, .string ((rd_T46 l0 x11_1).f1)] 46 (0, 0)) (by (with_reducible repeat (first | refine blk_drewN ?_ _ | refine blk_drew ?_ | refine blk_alloc ?_ _)); refine blk_put (cs := #[.slice A115_0 ((rd_T46 l0 x11_1).f0).length c115_0, .string (⟨#[]⟩ : ByteArray)]) ?_ 1 _ rfl; (with_reducible repeat (first | refine blk_drewN ?_ _ | refine blk_drew ?_ | refine blk_alloc ?_ _)); refine blk_put (cs := #[.slice none 0 0, .string (⟨#[]⟩ : ByteArray)]) ?_ 0 _ rfl; (with_reducible repeat (first | refine blk_drewN ?_ _ | refine blk_drew ?_ | refine blk_alloc ?_ _)); exact BK116.out) hb); have n1_ := Aside0.mk (below_step (by repeat (first | (with_reducible first | exact HB.out | apply below_alloc | apply pw_below_drewN | apply below_drew1 | refine below_set ?_ GE116.out) | exact HB.out)) hb); clear BK116; clear HB; have BK116 := n0_; have HB := n1_; clear n0_ n1_; (try clear hb); (try clear hb2); (try clear hk); (try clear hi); have hcz14_0 : w13.cell? ⟨gb116, 0, none⟩ = some (.slice A115_0 ((rd_T46 l0 x11_1).f0).length c115_0) := (blk_cell BK116.out 0).trans rfl; have hcz14_1 : w13.cell? ⟨gb116, 1, none⟩ = some (.string ((rd_T46 l0 x11_1).f1)) := (blk_cell BK116.out 1).trans rfl; have hfz14_0 := blk_frozen BK116.out 0; have hfz14_1 := blk_frozen BK116.out 1))
                  go_meet
                  case rel => exact ⟨_, (true), (by first | rfl | (simp; done) | (simp [*]; done)), H', ⟨by have := HK1.out; first | omega | exact Nat.le_refl _⟩, ⟨by (with_reducible repeat (first | refine blk_drewN ?_ _ | refine blk_drew ?_ | refine blk_alloc ?_ _)); exact BK116.out⟩, ⟨by repeat (first | (with_reducible first | exact HB.out | apply below_alloc | apply pw_below_drewN | apply below_drew1 | refine below_set ?_ GE116.out) | exact HB.out)⟩⟩
                · rw [if_neg c11] at H
                  have c11b0 : decide (500 < (((rd_T46 l0 x11_1).f1).size : Int)) = false := decide_eq_false c11
                  have c11b1 : decide (500 < ((rd_T46 l0 x11_1).f1).size) = false := decide_eq_false (by omega)
                  clear c11
                  (first | rw [c11b0] | (simp only [i64_w, i32_w]; rw [c11b0]) | skip)
                  have H' := Aside0.mk H
                  clear H
                  have hcz15_0 : w7.cell? ⟨gb116, 0, none⟩ = some (.slice none 0 0) := (blk_cell BK116.out 0).trans rfl
                  have hcz15_1 : w7.cell? ⟨gb116, 1, none⟩ = some (.string (⟨#[]⟩ : ByteArray)) := (blk_cell BK116.out 1).trans rfl
                  have hfz15_0 := blk_frozen BK116.out 0
                  have hfz15_1 := blk_frozen BK116.out 1
                  go_wp2_with (first | ((with_reducible refine gate_callee (f := 27) rfl ?_); refine goesL_ (some 18) rfl rfl Tryd.func27 (by kernel_rfl) rfl #[.string ((rd_T46 l0 x11_1).f1), .bool a1] rfl (by (try simp only [List.map_toArray, List.map_cons, List.map_nil]); first | done | rfl | (simp only [List.length_drop, List.length_take]; rfl)) ?_; (with_reducible refine (spec_TxSimple.calls ((rd_T46 l0 x11_1).f1) a1 true _ A9.out).mono ?_); rintro e w16 ⟨rfl, hb⟩; refine ⟨_, rfl, ?_⟩; have n0_ := Aside0.mk (blk_below (g := gb116) (o := .cells #[.slice A115_0 ((rd_T46 l0 x11_1).f0).length c115_0, .string ((rd_T46 l0 x11_1).f1)] 46 (0, 0)) (by (with_reducible repeat (first | refine blk_drewN ?_ _ | refine blk_drew ?_ | refine blk_alloc ?_ _)); refine blk_put (cs := #[.slice A115_0 ((rd_T46 l0 x11_1).f0).length c115_0, .string (⟨#[]⟩ : ByteArray)]) ?_ 1 _ rfl; (with_reducible repeat (first | refine blk_drewN ?_ _ | refine blk_drew ?_ | refine blk_alloc ?_ _)); refine blk_put (cs := #[.slice none 0 0, .string (⟨#[]⟩ : ByteArray)]) ?_ 0 _ rfl; (with_reducible repeat (first | refine blk_drewN ?_ _ | refine blk_drew ?_ | refine blk_alloc ?_ _)); exact BK116.out) hb); have n1_ := Aside0.mk (below_step (by repeat (first | (with_reducible first | exact HB.out | apply below_alloc | apply pw_below_drewN | apply below_drew1 | refine below_set ?_ GE116.out) | exact HB.out)) hb); clear BK116; clear HB; have BK116 := n0_; have HB := n1_; clear n0_ n1_; (try clear hb); (try clear hb2); (try clear hk); (try clear hi); have hcz17_0 : w16.cell? ⟨gb116, 0, none⟩ = some (.slice A115_0 ((rd_T46 l0 x11_1).f0).length c115_0) := (blk_cell BK116.out 0).trans rfl; have hcz17_1 : w16.cell? ⟨gb116, 1, none⟩ = some (.string ((rd_T46 l0 x11_1).f1)) := (blk_cell BK116.out 1).trans rfl; have hfz17_0 := blk_frozen BK116.out 0; have hfz17_1 := blk_frozen BK116.out 1))
                  go_meet
                  case rel => exact ⟨_, (decide ((((rd_T46 l0 x11_1).f0).length : Int) > 4)), (by first | rfl | (simp; done) | (simp [*]; done)), H', ⟨by have := HK1.out; first | omega | exact Nat.le_refl _⟩, ⟨by (with_reducible repeat (first | refine blk_drewN ?_ _ | refine blk_drew ?_ | refine blk_alloc ?_ _)); exact BK116.out⟩, ⟨by repeat (first | (with_reducible first | exact HB.out | apply below_alloc | apply pw_below_drewN | apply below_drew1 | refine below_set ?_ GE116.out) | exact HB.out)⟩⟩
              · replace c10 := Bool.eq_false_iff.mpr c10
                subst c10
                have H1 : (spec_TxGood.j1 k1 l0 a1 l0 (l0.length : Int) x11_1 true ((rd_T46 l0 x11_1).f0) ((rd_T46 l0 x11_1).f1)) = some r := by rw [if_neg (show ¬ (false = true) by decide)] at H; exact H
                clear H
                have H := H1
                clear H1
                have H' := Aside0.mk H
                clear H
                have hcz18_0 : w7.cell? ⟨gb116, 0, none⟩ = some (.slice none 0 0) := (blk_cell BK116.out 0).trans rfl
                have hcz18_1 : w7.cell? ⟨gb116, 1, none⟩ = some (.string (⟨#[]⟩ : ByteArray)) := (blk_cell BK116.out 1).trans rfl
                have hfz18_0 := blk_frozen BK116.out 0
                have hfz18_1 := blk_frozen BK116.out 1
                go_wp2_with (first | ((with_reducible refine gate_callee (f := 27) rfl ?_); refine goesL_ (some 18) rfl rfl Tryd.func27 (by kernel_rfl) rfl #[.string ((rd_T46 l0 x11_1).f1), .bool a1] rfl (by (try simp only [List.map_toArray, List.map_cons, List.map_nil]); first | done | rfl | (simp only [List.length_drop, List.length_take]; rfl)) ?_; (with_reducible refine (spec_TxSimple.calls ((rd_T46 l0 x11_1).f1) a1 false _ A9.out).mono ?_); rintro e w19 ⟨rfl, hb⟩; refine ⟨_, rfl, ?_⟩; have n0_ := Aside0.mk (blk_below (g := gb116) (o := .cells #[.slice A115_0 ((rd_T46 l0 x11_1).f0).length c115_0, .string ((rd_T46 l0 x11_1).f1)] 46 (0, 0)) (by (with_reducible repeat (first | refine blk_drewN ?_ _ | refine blk_drew ?_ | refine blk_alloc ?_ _)); refine blk_put (cs := #[.slice A115_0 ((rd_T46 l0 x11_1).f0).length c115_0, .string (⟨#[]⟩ : ByteArray)]) ?_ 1 _ rfl; (with_reducible repeat (first | refine blk_drewN ?_ _ | refine blk_drew ?_ | refine blk_alloc ?_ _)); refine blk_put (cs := #[.slice none 0 0, .string (⟨#[]⟩ : ByteArray)]) ?_ 0 _ rfl; (with_reducible repeat (first | refine blk_drewN ?_ _ | refine blk_drew ?_ | refine blk_alloc ?_ _)); exact BK116.out) hb); have n1_ := Aside0.mk (below_step (by repeat (first | (with_reducible first | exact HB.out | apply below_alloc | apply pw_below_drewN | apply below_drew1 | refine below_set ?_ GE116.out) | exact HB.out)) hb); clear BK116; clear HB; have BK116 := n0_; have HB := n1_; clear n0_ n1_; (try clear hb); (try clear hb2); (try clear hk); (try clear hi)))
                go_meet
                case rel => exact ⟨_, (true), (by first | rfl | (simp; done) | (simp [*]; done)), H', ⟨by have := HK1.out; first | omega | exact Nat.le_refl _⟩, ⟨by (with_reducible repeat (first | refine blk_drewN ?_ _ | refine blk_drew ?_ | refine blk_alloc ?_ _)); exact BK116.out⟩, ⟨by repeat (first | (with_reducible first | exact HB.out | apply below_alloc | apply pw_below_drewN | apply below_drew1 | refine below_set ?_ GE116.out) | exact HB.out)⟩⟩
            case rest =>
              clear HC6
              try clear c1
              try clear p1
              try clear q1
              try clear hx1
              try clear c2
              try clear p2
              try clear c3
              try clear c3b0
              try clear c4
              try clear c4b0
              try clear c5
              try clear c5b0
              try clear c10
              try clear c11
              try clear c11b0
              try clear c11b1
              try clear p11
              try clear q11
              try clear hx11
              try clear c14
              try clear hcz12_0
              try clear hcz12_1
              try clear hcz14_0
              try clear hcz14_1
              try clear hcz15_0
              try clear hcz15_1
              try clear hcz17_0
              try clear hcz17_1
              try clear hcz18_0
              try clear hcz18_1
              try clear hcz8_0
              try clear hcz8_1
              try clear hfz12_0
              try clear hfz12_1
              try clear hfz14_0
              try clear hfz14_1
              try clear hfz15_0
              try clear hfz15_1
              try clear hfz17_0
              try clear hfz17_1
              try clear hfz18_0
              try clear hfz18_1
              try clear hfz8_0
              try clear hfz8_1
              try clear hx115_0
              try clear hx115_1
              try clear p115
              try clear p2
              try clear q115
              obtain ⟨kq, x31_5, rfl, HA, HJ5, BK116, HB⟩ := hcut
              cases kq with
              | zero => exact absurd HA.out (by simp [spec_TxGood.j1])
              | succ kj5 =>
                have H := HA.out
                clear HA
                simp only [spec_TxGood.j1] at H
                by_cases c20 : x31_5 = true
                · subst c20
                  have H1 : (some false) = some r := by rw [if_pos rfl] at H; exact H
                  clear H
                  have H := H1
                  clear H1
                  obtain rfl := Option.some.inj H
                  go_wp2
                  go_ret
                  exact ⟨by first | rfl | (simp [errW_none, errW_some] <;> rfl) | (simp [*, errW_none, errW_some] <;> rfl), by repeat (first | (with_reducible first | exact HB.out | apply below_alloc | apply pw_below_drewN | apply below_drew1 | refine below_set ?_ GE116.out) | exact HB.out)⟩
                · replace c20 := Bool.eq_false_iff.mpr c20
                  subst c20
                  have H1 : (spec_TxGood.l1 kj5 l0 a1 l0 (l0.length : Int) x11_1 ((rd_T46 l0 x11_1).f0) (((rd_T46 l0 x11_1).f0).length : Int) 0 ((rd_T46 l0 x11_1).f0) ((rd_T46 l0 x11_1).f1)) = some r := by rw [if_neg (show ¬ (false = true) by decide)] at H; exact H
                  clear H
                  have H := H1
                  clear H1
                  have H' := Aside0.mk H
                  clear H
                  have hcz21_0 : wc.cell? ⟨gb116, 0, none⟩ = some (.slice A115_0 ((rd_T46 l0 x11_1).f0).length c115_0) := (blk_cell BK116.out 0).trans rfl
                  have hcz21_1 : wc.cell? ⟨gb116, 1, none⟩ = some (.string ((rd_T46 l0 x11_1).f1)) := (blk_cell BK116.out 1).trans rfl
                  have hfz21_0 := blk_frozen BK116.out 0
                  have hfz21_1 := blk_frozen BK116.out 1
                  go_wp2
                  go_loopg [35] kj5 (fun kq v35 w' => ∃ (x35_3 : Int), v35 = .int .i64 x35_3 ∧ Aside0 (spec_TxGood.l1 kq l0 a1 l0 (l0.length : Int) x11_1 ((rd_T46 l0 x11_1).f0) (((rd_T46 l0 x11_1).f0).length : Int) x35_3 ((rd_T46 l0 x11_1).f0) ((rd_T46 l0 x11_1).f1) = some r) ∧ Aside0 (kq ≤ kj5) ∧ Aside0 (w'.heap[gb116]? = some (.cells #[(.slice A115_0 ((rd_T46 l0 x11_1).f0).length c115_0), .string ((rd_T46 l0 x11_1).f1)] 46 (0, 0))) ∧ Aside0 (Below w.heap.size w w'))
                  case atStart => exact ⟨(0), (by first | rfl | (simp; done) | (simp [*]; done)), H', ⟨Nat.le_refl _⟩, ⟨by (with_reducible repeat (first | refine blk_drewN ?_ _ | refine blk_drew ?_ | refine blk_alloc ?_ _)); exact BK116.out⟩, ⟨by repeat (first | (with_reducible first | exact HB.out | apply below_alloc | apply pw_below_drewN | apply below_drew1 | refine below_set ?_ GE116.out) | exact HB.out)⟩⟩
                  case round =>
                    clear H'
                    try clear c1
                    try clear p1
                    try clear q1
                    try clear hx1
                    try clear c2
                    try clear p2
                    try clear c3
                    try clear c3b0
                    try clear c4
                    try clear c4b0
                    try clear c5
                    try clear c5b0
                    try clear c10
                    try clear c11
                    try clear c11b0
                    try clear c11b1
                    try clear p11
                    try clear q11
                    try clear hx11
                    try clear c14
                    try clear c20
                    try clear hcz12_0
                    try clear hcz12_1
                    try clear hcz14_0
                    try clear hcz14_1
                    try clear hcz15_0
                    try clear hcz15_1
                    try clear hcz17_0
                    try clear hcz17_1
                    try clear hcz18_0
                    try clear hcz18_1
                    try clear hcz21_0
                    try clear hcz21_1
                    try clear hcz8_0
                    try clear hcz8_1
                    try clear hfz12_0
                    try clear hfz12_1
                    try clear hfz14_0
                    try clear hfz14_1
                    try clear hfz15_0
                    try clear hfz15_1
                    try clear hfz17_0
                    try clear hfz17_1
                    try clear hfz18_0
                    try clear hfz18_1
                    try clear hfz21_0
                    try clear hfz21_1
                    try clear hfz8_0
                    try clear hfz8_1
                    try clear hx115_0
                    try clear hx115_1
                    try clear p1
                    try clear p11
                    try clear p115
                    try clear p2
                    try clear q1
                    try clear q11
                    try clear q115
                    obtain ⟨x35_3, rfl, HA, HK3, BK116, HB⟩ := hrel
                    cases gk with
                    | zero => exact absurd HA.out (by simp [spec_TxGood.l1])
                    | succ k3 =>
                      have H := HA.out
                      clear HA
                      simp only [spec_TxGood.l1] at H
                      by_cases c22 : x35_3 < (((rd_T46 l0 x11_1).f0).length : Int)
                      · rw [if_pos c22] at H
                        have c22b0 : decide (x35_3 < (((rd_T46 l0 x11_1).f0).length : Int)) = true := decide_eq_true c22
                        clear c22
                        by_cases c23 : 0 ≤ x35_3
                        · rw [if_pos c23] at H
                          have c23b0 : decide (0 ≤ x35_3) = true := decide_eq_true c23
                          clear c23
                          by_cases c24 : x35_3 < (((rd_T46 l0 x11_1).f0).length : Int)
                          · rw [if_pos c24] at H
                            have c24b0 : decide (x35_3 < (((rd_T46 l0 x11_1).f0).length : Int)) = true := decide_eq_true c24
                            clear c24
                            replace H := Option.bind_eq_some_iff.mp H
                            obtain ⟨t119, A250, H⟩ := H
                            replace H : (if t119 = true then (spec_TxGood.l1 k3 l0 a1 l0 (l0.length : Int) x11_1 ((rd_T46 l0 x11_1).f0) (((rd_T46 l0 x11_1).f0).length : Int) (wrap64 (x35_3 + 1)) ((rd_T46 l0 x11_1).f0) ((rd_T46 l0 x11_1).f1)) else (if (rd ((rd_T46 l0 x11_1).f0) x35_3) = 0 then (if (((rd_T46 l0 x11_1).f0).length : Int) > 1 then (some false) else (spec_TxGood.l1 k3 l0 a1 l0 (l0.length : Int) x11_1 ((rd_T46 l0 x11_1).f0) (((rd_T46 l0 x11_1).f0).length : Int) (wrap64 (x35_3 + 1)) ((rd_T46 l0 x11_1).f0) ((rd_T46 l0 x11_1).f1))) else (some false))) = some r := H
                            have A25 := Aside0.mk A250
                            clear A250
                            by_cases c26 : t119 = true
                            · subst c26
                              have H1 : (spec_TxGood.l1 k3 l0 a1 l0 (l0.length : Int) x11_1 ((rd_T46 l0 x11_1).f0) (((rd_T46 l0 x11_1).f0).length : Int) (wrap64 (x35_3 + 1)) ((rd_T46 l0 x11_1).f0) ((rd_T46 l0 x11_1).f1)) = some r := by rw [if_pos rfl] at H; exact H
                              clear H
                              have H := H1
                              clear H1
                              have H' := Aside0.mk H
                              clear H
                              have p118 : 0 ≤ (x35_3 : Int) := of_decide_eq_true (by first | (with_reducible assumption) | assumption)
                              have q118 : x35_3 < (((rd_T46 l0 x11_1).f0).length : Int) := of_decide_eq_true (by first | (with_reducible assumption) | assumption)
                              obtain ⟨ad118, e118, hx118_0⟩ := Kd.at_int HR115_0.out x35_3 p118 q118
                              cases e118
                              replace hx118_0 := (HB.out.cell (World.block_lt_of_cell? w _ hx118_0)).trans hx118_0
                              replace p118 := eq_true p118
                              replace q118 := eq_true q118
                              go_wp2_with (first | ((with_reducible refine gate_callee (f := 15) rfl ?_); refine goesL_ (some 40) rfl rfl Tryd.func15 (by kernel_rfl) rfl #[.int .i64 (rd ((rd_T46 l0 x11_1).f0) x35_3)] rfl (by (try simp only [List.map_toArray, List.map_cons, List.map_nil]); first | done | rfl | (simp only [List.length_drop, List.length_take]; rfl)) ?_; (with_reducible refine (spec_TxAttribute.calls (rd ((rd_T46 l0 x11_1).f0) x35_3) true _ A25.out).mono ?_); rintro e w' ⟨rfl, ⟨nd, rfl⟩⟩; refine ⟨_, rfl, ?_⟩))
                              go_roundg k3
                              case measure => have := HK1.out; have := HJ5.out; have := HK3.out; omega
                              case rel => exact ⟨(wrap64 (x35_3 + 1)), (by first | rfl | (simp; done) | (simp [*]; done)), H', ⟨by have := HK1.out; have := HJ5.out; have := HK3.out; omega⟩, ⟨by (with_reducible repeat (first | refine blk_drewN ?_ _ | refine blk_drew ?_ | refine blk_alloc ?_ _)); exact BK116.out⟩, ⟨by repeat (first | (with_reducible first | exact HB.out | apply below_alloc | apply pw_below_drewN | apply below_drew1 | refine below_set ?_ GE116.out) | exact HB.out)⟩⟩
                            · replace c26 := Bool.eq_false_iff.mpr c26
                              subst c26
                              have H1 : (if (rd ((rd_T46 l0 x11_1).f0) x35_3) = 0 then (if (((rd_T46 l0 x11_1).f0).length : Int) > 1 then (some false) else (spec_TxGood.l1 k3 l0 a1 l0 (l0.length : Int) x11_1 ((rd_T46 l0 x11_1).f0) (((rd_T46 l0 x11_1).f0).length : Int) (wrap64 (x35_3 + 1)) ((rd_T46 l0 x11_1).f0) ((rd_T46 l0 x11_1).f1))) else (some false)) = some r := by rw [if_neg (show ¬ (false = true) by decide)] at H; exact H
                              clear H
                              have H := H1
                              clear H1
                              by_cases c27 : (rd ((rd_T46 l0 x11_1).f0) x35_3) = 0
                              · rw [if_pos c27] at H
                                have c27b0 : ((rd ((rd_T46 l0 x11_1).f0) x35_3) == 0) = true := beq_iff_eq.mpr c27
                                have c27b1 : ((rd ((rd_T46 l0 x11_1).f0) x35_3) != 0) = false := bne_eq_false_iff_eq.mpr c27
                                clear c27
                                by_cases c28 : (((rd_T46 l0 x11_1).f0).length : Int) > 1
                                · rw [if_pos c28] at H
                                  have c28b0 : decide (1 < (((rd_T46 l0 x11_1).f0).length : Int)) = true := decide_eq_true c28
                                  have c28b1 : decide (1 < ((rd_T46 l0 x11_1).f0).length) = true := decide_eq_true (by omega)
                                  clear c28
                                  obtain rfl := Option.some.inj H
                                  have p118 : 0 ≤ (x35_3 : Int) := of_decide_eq_true (by first | (with_reducible assumption) | assumption)
                                  have q118 : x35_3 < (((rd_T46 l0 x11_1).f0).length : Int) := of_decide_eq_true (by first | (with_reducible assumption) | assumption)
                                  obtain ⟨ad118, e118, hx118_0⟩ := Kd.at_int HR115_0.out x35_3 p118 q118
                                  cases e118
                                  replace hx118_0 := (HB.out.cell (World.block_lt_of_cell? w _ hx118_0)).trans hx118_0
                                  replace p118 := eq_true p118
                                  replace q118 := eq_true q118
                                  go_wp2_with (first | ((with_reducible refine gate_callee (f := 15) rfl ?_); refine goesL_ (some 40) rfl rfl Tryd.func15 (by kernel_rfl) rfl #[.int .i64 (rd ((rd_T46 l0 x11_1).f0) x35_3)] rfl (by (try simp only [List.map_toArray, List.map_cons, List.map_nil]); first | done | rfl | (simp only [List.length_drop, List.length_take]; rfl)) ?_; (with_reducible refine (spec_TxAttribute.calls (rd ((rd_T46 l0 x11_1).f0) x35_3) false _ A25.out).mono ?_); rintro e w' ⟨rfl, ⟨nd, rfl⟩⟩; refine ⟨_, rfl, ?_⟩; have hcz29_0 : wr.cell? ⟨gb116, 0, none⟩ = some (.slice (some ad118) ((rd_T46 l0 x11_1).f0).length c115_0) := (blk_cell BK116.out 0).trans rfl; have hcz29_1 : wr.cell? ⟨gb116, 1, none⟩ = some (.string ((rd_T46 l0 x11_1).f1)) := (blk_cell BK116.out 1).trans rfl; have hfz29_0 := blk_frozen BK116.out 0; have hfz29_1 := blk_frozen BK116.out 1))
                                  go_ret
                                  exact ⟨by first | rfl | (simp [errW_none, errW_some] <;> rfl) | (simp [*, errW_none, errW_some] <;> rfl), by repeat (first | (with_reducible first | exact HB.out | apply below_alloc | apply pw_below_drewN | apply below_drew1 | refine below_set ?_ GE116.out) | exact HB.out)⟩
                                · rw [if_neg c28] at H
                                  have c28b0 : decide (1 < (((rd_T46 l0 x11_1).f0).length : Int)) = false := decide_eq_false c28
                                  have c28b1 : decide (1 < ((rd_T46 l0 x11_1).f0).length) = false := decide_eq_false (by omega)
                                  clear c28
                                  have H' := Aside0.mk H
                                  clear H
                                  have p118 : 0 ≤ (x35_3 : Int) := of_decide_eq_true (by first | (with_reducible assumption) | assumption)
                                  have q118 : x35_3 < (((rd_T46 l0 x11_1).f0).length : Int) := of_decide_eq_true (by first | (with_reducible assumption) | assumption)
                                  obtain ⟨ad118, e118, hx118_0⟩ := Kd.at_int HR115_0.out x35_3 p118 q118
                                  cases e118
                                  replace hx118_0 := (HB.out.cell (World.block_lt_of_cell? w _ hx118_0)).trans hx118_0
                                  replace p118 := eq_true p118
                                  replace q118 := eq_true q118
                                  go_wp2_with (first | ((with_reducible refine gate_callee (f := 15) rfl ?_); refine goesL_ (some 40) rfl rfl Tryd.func15 (by kernel_rfl) rfl #[.int .i64 (rd ((rd_T46 l0 x11_1).f0) x35_3)] rfl (by (try simp only [List.map_toArray, List.map_cons, List.map_nil]); first | done | rfl | (simp only [List.length_drop, List.length_take]; rfl)) ?_; (with_reducible refine (spec_TxAttribute.calls (rd ((rd_T46 l0 x11_1).f0) x35_3) false _ A25.out).mono ?_); rintro e w' ⟨rfl, ⟨nd, rfl⟩⟩; refine ⟨_, rfl, ?_⟩; have hcz30_0 : wr.cell? ⟨gb116, 0, none⟩ = some (.slice (some ad118) ((rd_T46 l0 x11_1).f0).length c115_0) := (blk_cell BK116.out 0).trans rfl; have hcz30_1 : wr.cell? ⟨gb116, 1, none⟩ = some (.string ((rd_T46 l0 x11_1).f1)) := (blk_cell BK116.out 1).trans rfl; have hfz30_0 := blk_frozen BK116.out 0; have hfz30_1 := blk_frozen BK116.out 1))
                                  go_roundg k3
                                  case measure => have := HK1.out; have := HJ5.out; have := HK3.out; omega
                                  case rel => exact ⟨(wrap64 (x35_3 + 1)), (by first | rfl | (simp; done) | (simp [*]; done)), H', ⟨by have := HK1.out; have := HJ5.out; have := HK3.out; omega⟩, ⟨by (with_reducible repeat (first | refine blk_drewN ?_ _ | refine blk_drew ?_ | refine blk_alloc ?_ _)); exact BK116.out⟩, ⟨by repeat (first | (with_reducible first | exact HB.out | apply below_alloc | apply pw_below_drewN | apply below_drew1 | refine below_set ?_ GE116.out) | exact HB.out)⟩⟩
                              · rw [if_neg c27] at H
                                have c27b0 : ((rd ((rd_T46 l0 x11_1).f0) x35_3) == 0) = false := beq_eq_false_iff_ne.mpr c27
                                have c27b1 : ((rd ((rd_T46 l0 x11_1).f0) x35_3) != 0) = true := bne_iff_ne.mpr c27
                                obtain rfl := Option.some.inj H
                                have p118 : 0 ≤ (x35_3 : Int) := of_decide_eq_true (by first | (with_reducible assumption) | assumption)
                                have q118 : x35_3 < (((rd_T46 l0 x11_1).f0).length : Int) := of_decide_eq_true (by first | (with_reducible assumption) | assumption)
                                obtain ⟨ad118, e118, hx118_0⟩ := Kd.at_int HR115_0.out x35_3 p118 q118
                                cases e118
                                replace hx118_0 := (HB.out.cell (World.block_lt_of_cell? w _ hx118_0)).trans hx118_0
                                replace p118 := eq_true p118
                                replace q118 := eq_true q118
                                go_wp2_with (first | ((with_reducible refine gate_callee (f := 15) rfl ?_); refine goesL_ (some 40) rfl rfl Tryd.func15 (by kernel_rfl) rfl #[.int .i64 (rd ((rd_T46 l0 x11_1).f0) x35_3)] rfl (by (try simp only [List.map_toArray, List.map_cons, List.map_nil]); first | done | rfl | (simp only [List.length_drop, List.length_take]; rfl)) ?_; (with_reducible refine (spec_TxAttribute.calls (rd ((rd_T46 l0 x11_1).f0) x35_3) false _ A25.out).mono ?_); rintro e w' ⟨rfl, ⟨nd, rfl⟩⟩; refine ⟨_, rfl, ?_⟩))
                                go_ret
                                exact ⟨by first | rfl | (simp [errW_none, errW_some] <;> rfl) | (simp [*, errW_none, errW_some] <;> rfl), by repeat (first | (with_reducible first | exact HB.out | apply below_alloc | apply pw_below_drewN | apply below_drew1 | refine below_set ?_ GE116.out) | exact HB.out)⟩
                          · rw [if_neg c24] at H
                            exact absurd H (by simp)
                        · rw [if_neg c23] at H
                          exact absurd H (by simp)
                      · rw [if_neg c22] at H
                        have c22b0 : decide (x35_3 < (((rd_T46 l0 x11_1).f0).length : Int)) = false := decide_eq_false c22
                        clear c22
                        have H' := Aside0.mk H
                        clear H
                        go_wp2
                        go_roundg k3
                        case measure => have := HK1.out; have := HJ5.out; have := HK3.out; omega
                        case rel => exact ⟨(wrap64 (x11_1 + 1)), (by first | rfl | (simp; done) | (simp [*]; done)), H', ⟨by have := HK1.out; have := HJ5.out; have := HK3.out; omega⟩, ⟨by repeat (first | (with_reducible first | exact HB.out | apply below_alloc | apply pw_below_drewN | apply below_drew1 | refine below_set ?_ GE116.out) | exact HB.out)⟩⟩
          · rw [if_neg c5] at H
            exact absurd H (by simp)
        · rw [if_neg c4] at H
          exact absurd H (by simp)
      · rw [if_neg c3] at H
        have c3b0 : decide (x11_1 < (l0.length : Int)) = false := decide_eq_false c3
        clear c3
        obtain rfl := Option.some.inj H
        go_wp2
        go_ret
        exact ⟨by first | rfl | (simp [errW_none, errW_some] <;> rfl) | (simp [*, errW_none, errW_some] <;> rfl), by repeat (first | (with_reducible first | exact HB.out | apply below_alloc | apply pw_below_drewN | apply below_drew1) | exact HB.out)⟩

-- GIVEN: text_Escape

/-! ### text_colorize: function 35 -/
def text_colorize.f (a0 : ByteArray) (a1 : ByteArray) : Option (ByteArray) := if a1.toList = ([] : List UInt8) then (some a0) else ((text_Escape.f a0 a1).bind fun t120 => (some t120))
set_option maxHeartbeats 8000000 in
set_option maxRecDepth 100000 in
theorem text_colorize.calls (a0 : ByteArray) (a1 : ByteArray) (r : ByteArray) (w : World) (h : text_colorize.f a0 a1 = some r) :
    Calls Tryd.prog 35 #[.string a0, .string a1] w fun e w' => e = .returned (.string r) ∧ Below w.heap.size w w' := by
  have HB := Aside0.mk (Below.refl w.heap.size w)
  have H : (if a1.toList = ([] : List UInt8) then (some a0) else ((text_Escape.f a0 a1).bind fun t120 => (some t120))) = some r := h
  clear h
  by_cases c3 : a1.toList = ([] : List UInt8)
  · rw [if_pos c3] at H
    have c3b0 : (a1.toList == ([] : List UInt8)) = true := beq_iff_eq.mpr c3
    have c3b1 : (a1.toList != ([] : List UInt8)) = false := bne_eq_false_iff_eq.mpr c3
    clear c3
    obtain rfl := Option.some.inj H
    go_enter Tryd.func35, Tryd.ntmps35
    go_wp2
    go_ret
    exact ⟨by first | rfl | (simp [errW_none, errW_some] <;> rfl) | (simp [*, errW_none, errW_some] <;> rfl), by repeat (first | (with_reducible first | exact HB.out | apply below_alloc | apply pw_below_drewN | apply below_drew1) | exact HB.out)⟩
  · rw [if_neg c3] at H
    have c3b0 : (a1.toList == ([] : List UInt8)) = false := beq_eq_false_iff_ne.mpr c3
    have c3b1 : (a1.toList != ([] : List UInt8)) = true := bne_iff_ne.mpr c3
    replace H := Option.bind_eq_some_iff.mp H
    obtain ⟨t120, A40, H⟩ := H
    replace H : (some t120) = some r := H
    have A4 := Aside0.mk A40
    clear A40
    obtain rfl := Option.some.inj H
    go_enter Tryd.func35, Tryd.ntmps35
    go_wp2_with (first | ((with_reducible refine gate_callee (f := 29) rfl ?_); refine goesL_ (some 12) rfl rfl Tryd.func29 (by kernel_rfl) rfl #[.string a0, .string a1] rfl (by (try simp only [List.map_toArray, List.map_cons, List.map_nil]); first | done | rfl | (simp only [List.length_drop, List.length_take]; rfl)) ?_; (with_reducible refine (text_Escape.calls a0 a1 t120 _ A4.out).mono ?_); rintro e w5 ⟨rfl, hb⟩; refine ⟨_, rfl, ?_⟩; have n0_ := Aside0.mk (below_step (by repeat (first | (with_reducible first | exact HB.out | apply below_alloc | apply pw_below_drewN | apply below_drew1) | exact HB.out)) hb); clear HB; have HB := n0_; clear n0_; (try clear hb); (try clear hb2); (try clear hk); (try clear hi)))
    go_ret
    exact ⟨by first | rfl | (simp [errW_none, errW_some] <;> rfl) | (simp [*, errW_none, errW_some] <;> rfl), by repeat (first | (with_reducible first | exact HB.out | apply below_alloc | apply pw_below_drewN | apply below_drew1) | exact HB.out)⟩

-- GIVEN: strings_Join

/-! ### text_Color_Sprint: function 28 -/
def text_Color_Sprint.f (k : Nat) (a0 : Int) (l1 : List ByteArray) : Option (ByteArray) := (strings_Join.f l1 (⟨#[]⟩ : ByteArray)).bind fun t121 => ((text_Color_EscapeSeq.f k a0).bind fun t122 => ((text_colorize.f t121 t122).bind fun t123 => (some t123)))
theorem text_Color_Sprint.mono : ∀ a0 a1 k, LeO (text_Color_Sprint.f k a0 a1) (text_Color_Sprint.f (k + 1) a0 a1) := by
  intro a0 a1 k
  unfold text_Color_Sprint.f
  repeat' first
      | (with_reducible exact text_Color_EscapeSeq.mono _ _)
      | (with_reducible exact LeO.refl _)
      | (with_reducible exact LeO.none _)
      | (with_reducible refine LeO.ite ?_ ?_)
      | (with_reducible refine LeO.bind ?_ (fun _ => ?_))
      | exact text_Color_EscapeSeq.mono _ _
      | exact LeO.none _
      | refine LeO.ite ?_ ?_
      | refine LeO.bind ?_ (fun _ => ?_)
set_option maxHeartbeats 8000000 in
set_option maxRecDepth 100000 in
theorem text_Color_Sprint.calls (k : Nat) (a0 : Int) (A1 : Option Addr) (c1 : Nat) (l1 : List ByteArray) (r : ByteArray) (w : World) (hr1 : Kd.C Kd.string w A1 l1.length l1) (hc1 : l1.length ≤ c1) (h : text_Color_Sprint.f k a0 l1 = some r) :
    Calls Tryd.prog 28 #[.int .i64 a0, .slice A1 l1.length c1] w fun e w' => e = .returned (.string r) ∧ Below w.heap.size w w' := by
  have HR1 := Aside0.mk hr1
  have HC1 := Aside0.mk hc1
  clear hr1 hc1
  have HB := Aside0.mk (Below.refl w.heap.size w)
  have H : ((strings_Join.f l1 (⟨#[]⟩ : ByteArray)).bind fun t121 => ((text_Color_EscapeSeq.f k a0).bind fun t122 => ((text_colorize.f t121 t122).bind fun t123 => (some t123)))) = some r := h
  clear h
  replace H := Option.bind_eq_some_iff.mp H
  obtain ⟨t121, A30, H⟩ := H
  replace H : ((text_Color_EscapeSeq.f k a0).bind fun t122 => ((text_colorize.f t121 t122).bind fun t123 => (some t123))) = some r := H
  have A3 := Aside0.mk A30
  clear A30
  replace H := Option.bind_eq_some_iff.mp H
  obtain ⟨t122, A40, H⟩ := H
  replace H : ((text_colorize.f t121 t122).bind fun t123 => (some t123)) = some r := H
  have A4 := Aside0.mk A40
  clear A40
  replace H := Option.bind_eq_some_iff.mp H
  obtain ⟨t123, A50, H⟩ := H
  replace H : (some t123) = some r := H
  have A5 := Aside0.mk A50
  clear A50
  obtain rfl := Option.some.inj H
  go_enter Tryd.func28, Tryd.ntmps28
  go_wp2_with (first | ((with_reducible refine gate_callee (f := 36) rfl ?_); refine goesL_ (some 6) rfl rfl Tryd.func36 (by kernel_rfl) rfl #[.slice A1 l1.length c1, .string (⟨#[]⟩ : ByteArray)] rfl (by (try simp only [List.map_toArray, List.map_cons, List.map_nil]); first | done | rfl | (simp only [List.length_drop, List.length_take]; rfl)) ?_; (with_reducible refine (strings_Join.calls _ _ l1 (⟨#[]⟩ : ByteArray) t121 _ ?side1 ?side2 A3.out).mono ?_); (case side1 => repeat (first | exact HR1.out | (with_reducible refine Kd.C_alloc ?_ _) | (with_reducible refine Kd.C_drewN ?_ _) | (with_reducible refine Kd.C_drew ?_))); (case side2 => exact HC1.out); rintro e w6 ⟨rfl, hb⟩; refine ⟨_, rfl, ?_⟩; have n0_ := Aside0.mk (below_step (by repeat (first | (with_reducible first | exact HB.out | apply below_alloc | apply pw_below_drewN | apply below_drew1) | exact HB.out)) hb); clear HB; have HB := n0_; clear n0_; (try clear hb); (try clear hb2); (try clear hk); (try clear hi)) | ((with_reducible refine gate_callee (f := 22) rfl ?_); refine goesL_ (some 8) rfl rfl Tryd.func22 (by kernel_rfl) rfl #[.int .i64 a0] rfl (by (try simp only [List.map_toArray, List.map_cons, List.map_nil]); first | done | rfl | (simp only [List.length_drop, List.length_take]; rfl)) ?_; (with_reducible refine (text_Color_EscapeSeq.calls k a0 t122 _ A4.out).mono ?_); rintro e w7 ⟨rfl, hb⟩; refine ⟨_, rfl, ?_⟩; have n0_ := Aside0.mk (below_step (by repeat (first | (with_reducible first | exact HB.out | apply below_alloc | apply pw_below_drewN | apply below_drew1) | exact HB.out)) hb); clear HB; have HB := n0_; clear n0_; (try clear hb); (try clear hb2); (try clear hk); (try clear hi)) | ((with_reducible refine gate_callee (f := 35) rfl ?_); refine goesL_ (some 9) rfl rfl Tryd.func35 (by kernel_rfl) rfl #[.string t121, .string t122] rfl (by (try simp only [List.map_toArray, List.map_cons, List.map_nil]); first | done | rfl | (simp only [List.length_drop, List.length_take]; rfl)) ?_; (with_reducible refine (text_colorize.calls t121 t122 t123 _ A5.out).mono ?_); rintro e w8 ⟨rfl, hb⟩; refine ⟨_, rfl, ?_⟩; have n0_ := Aside0.mk (below_step (by repeat (first | (with_reducible first | exact HB.out | apply below_alloc | apply pw_below_drewN | apply below_drew1) | exact HB.out)) hb); clear HB; have HB := n0_; clear n0_; (try clear hb); (try clear hb2); (try clear hk); (try clear hi)))
  go_ret
  exact ⟨by first | rfl | (simp [errW_none, errW_some] <;> rfl) | (simp [*, errW_none, errW_some] <;> rfl), by repeat (first | (with_reducible first | exact HB.out | apply below_alloc | apply pw_below_drewN | apply below_drew1) | exact HB.out)⟩

/-! ### impl_TextColorPrint: function 16 -/
def impl_TextColorPrint.f (k : Nat) (a0 : Int) (l1 : List ByteArray) : Option (ByteArray) := (text_Color_Sprint.f k a0 l1).bind fun t124 => (some t124)
theorem impl_TextColorPrint.mono : ∀ a0 a1 k, LeO (impl_TextColorPrint.f k a0 a1) (impl_TextColorPrint.f (k + 1) a0 a1) := by
  intro a0 a1 k
  unfold impl_TextColorPrint.f
  repeat' first
      | (with_reducible exact text_Color_Sprint.mono _ _ _)
      | (with_reducible exact LeO.refl _)
      | (with_reducible exact LeO.none _)
      | (with_reducible refine LeO.ite ?_ ?_)
      | (with_reducible refine LeO.bind ?_ (fun _ => ?_))
      | exact text_Color_Sprint.mono _ _ _
      | exact LeO.none _
      | refine LeO.ite ?_ ?_
      | refine LeO.bind ?_ (fun _ => ?_)
set_option maxHeartbeats 8000000 in
set_option maxRecDepth 100000 in
theorem impl_TextColorPrint.calls (k : Nat) (a0 : Int) (A1 : Option Addr) (c1 : Nat) (l1 : List ByteArray) (r : ByteArray) (w : World) (hr1 : Kd.C Kd.string w A1 l1.length l1) (hc1 : l1.length ≤ c1) (h : impl_TextColorPrint.f k a0 l1 = some r) :
    Calls Tryd.prog 16 #[.int .i64 a0, .slice A1 l1.length c1] w fun e w' => e = .returned (.string r) ∧ Below w.heap.size w w' := by
  have HR1 := Aside0.mk hr1
  have HC1 := Aside0.mk hc1
  clear hr1 hc1
  have HB := Aside0.mk (Below.refl w.heap.size w)
  have H : ((text_Color_Sprint.f k a0 l1).bind fun t124 => (some t124)) = some r := h
  clear h
  replace H := Option.bind_eq_some_iff.mp H
  obtain ⟨t124, A30, H⟩ := H
  replace H : (some t124) = some r := H
  have A3 := Aside0.mk A30
  clear A30
  obtain rfl := Option.some.inj H
  go_enter Tryd.func16, Tryd.ntmps16
  go_wp2_with (first | ((with_reducible refine gate_callee (f := 28) rfl ?_); refine goesL_ (some 7) rfl rfl Tryd.func28 (by kernel_rfl) rfl #[.int .i64 a0, .slice A1 l1.length c1] rfl (by (try simp only [List.map_toArray, List.map_cons, List.map_nil]); first | done | rfl | (simp only [List.length_drop, List.length_take]; rfl)) ?_; (with_reducible refine (text_Color_Sprint.calls k a0 _ _ l1 t124 _ ?side1 ?side2 A3.out).mono ?_); (case side1 => repeat (first | exact HR1.out | (with_reducible refine Kd.C_alloc ?_ _) | (with_reducible refine Kd.C_drewN ?_ _) | (with_reducible refine Kd.C_drew ?_))); (case side2 => exact HC1.out); rintro e w4 ⟨rfl, hb⟩; refine ⟨_, rfl, ?_⟩; have n0_ := Aside0.mk (below_step (by repeat (first | (with_reducible first | exact HB.out | apply below_alloc | apply pw_below_drewN | apply below_drew1) | exact HB.out)) hb); clear HB; have HB := n0_; clear n0_; (try clear hb); (try clear hb2); (try clear hk); (try clear hi)))
  go_ret
  exact ⟨by first | rfl | (simp [errW_none, errW_some] <;> rfl) | (simp [*, errW_none, errW_some] <;> rfl), by repeat (first | (with_reducible first | exact HB.out | apply below_alloc | apply pw_below_drewN | apply below_drew1) | exact HB.out)⟩

/-! ### impl_TextEscape: function 17 -/
def impl_TextEscape.f (a0 : ByteArray) (a1 : ByteArray) : Option (ByteArray) := (text_Escape.f a0 a1).bind fun t125 => (some t125)
set_option maxHeartbeats 8000000 in
set_option maxRecDepth 100000 in
theorem impl_TextEscape.calls (a0 : ByteArray) (a1 : ByteArray) (r : ByteArray) (w : World) (h : impl_TextEscape.f a0 a1 = some r) :
    Calls Tryd.prog 17 #[.string a0, .string a1] w fun e w' => e = .returned (.string r) ∧ Below w.heap.size w w' := by
  have HB := Aside0.mk (Below.refl w.heap.size w)
  have H : ((text_Escape.f a0 a1).bind fun t125 => (some t125)) = some r := h
  clear h
  replace H := Option.bind_eq_some_iff.mp H
  obtain ⟨t125, A30, H⟩ := H
  replace H : (some t125) = some r := H
  have A3 := Aside0.mk A30
  clear A30
  obtain rfl := Option.some.inj H
  go_enter Tryd.func17, Tryd.ntmps17
  go_wp2_with (first | ((with_reducible refine gate_callee (f := 29) rfl ?_); refine goesL_ (some 7) rfl rfl Tryd.func29 (by kernel_rfl) rfl #[.string a0, .string a1] rfl (by (try simp only [List.map_toArray, List.map_cons, List.map_nil]); first | done | rfl | (simp only [List.length_drop, List.length_take]; rfl)) ?_; (with_reducible refine (text_Escape.calls a0 a1 t125 _ A3.out).mono ?_); rintro e w4 ⟨rfl, hb⟩; refine ⟨_, rfl, ?_⟩; have n0_ := Aside0.mk (below_step (by repeat (first | (with_reducible first | exact HB.out | apply below_alloc | apply pw_below_drewN | apply below_drew1) | exact HB.out)) hb); clear HB; have HB := n0_; clear n0_; (try clear hb); (try clear hb2); (try clear hk); (try clear hi)))
  go_ret
  exact ⟨by first | rfl | (simp [errW_none, errW_some] <;> rfl) | (simp [*, errW_none, errW_some] <;> rfl), by repeat (first | (with_reducible first | exact HB.out | apply below_alloc | apply pw_below_drewN | apply below_drew1) | exact HB.out)⟩

/-! ### laws_FnTextColorEscape: function 4 -/
def laws_FnTextColorEscape.f (k : Nat) (a0 : Int) (l1 : List (S46)) : Option (Bool) := (laws_zzFits15.f k l1).bind fun t126 => (if t126 = true then ((spec_TxWritten.f k l1).bind fun t127 => ((spec_TxGood.f k l1 false).bind fun t128 => (if t128 = true then ((spec_TxAttribute.f a0).bind fun t129 => (if t129 = true then ((impl_TextColorPrint.f k a0 (([t127] : List ByteArray))).bind fun t133 => ((impl_TextColorSeq.f k a0).bind fun t134 => ((impl_TextEscape.f t127 t134).bind fun t135 => (if t133.toList = t135.toList then ((impl_TextColorSeq.f k a0).bind fun t136 => (some (t136.toList != ([] : List UInt8)))) else (some false))))) else (some true))) else (some true)))) else (some true))
theorem laws_FnTextColorEscape.mono : ∀ a0 a1 k, LeO (laws_FnTextColorEscape.f k a0 a1) (laws_FnTextColorEscape.f (k + 1) a0 a1) := by
  intro a0 a1 k
  unfold laws_FnTextColorEscape.f
  repeat' first
      | (with_reducible exact impl_TextColorPrint.mono _ _ _)
      | (with_reducible exact impl_TextColorSeq.mono _ _)
      | (with_reducible exact laws_zzFits15.mono _ _)
      | (with_reducible exact spec_TxGood.mono _ _ _)
      | (with_reducible exact spec_TxWritten.mono _ _)
      | (with_reducible exact LeO.refl _)
      | (with_reducible exact LeO.none _)
      | (with_reducible refine LeO.ite ?_ ?_)
      | (with_reducible refine LeO.bind ?_ (fun _ => ?_))
      | exact impl_TextColorPrint.mono _ _ _
      | exact impl_TextColorSeq.mono _ _
      | exact laws_zzFits15.mono _ _
      | exact spec_TxGood.mono _ _ _
      | exact spec_TxWritten.mono _ _
      | exact LeO.none _
      | refine LeO.ite ?_ ?_
      | refine LeO.bind ?_ (fun _ => ?_)
set_option maxHeartbeats 8000000 in
set_option maxRecDepth 100000 in
theorem laws_FnTextColorEscape.calls (k : Nat) (a0 : Int) (A1 : Option Addr) (c1 : Nat) (l1 : List (S46)) (r : Bool) (w : World) (hT : Tab w) (hr1 : Kd.C k46 w A1 l1.length l1) (hc1 : l1.length ≤ c1) (h : laws_FnTextColorEscape.f k a0 l1 = some r) :
    Calls Tryd.prog 4 #[.int .i64 a0, .slice A1 l1.length c1] w fun e w' => e = .returned (.bool r) ∧ Below w.heap.size w w' := by
  have HTW := Aside0.mk hT
  clear hT
  have HR1 := Aside0.mk hr1
  have HC1 := Aside0.mk hc1
  clear hr1 hc1
  have HB := Aside0.mk (Below.refl w.heap.size w)
  have H : ((laws_zzFits15.f k l1).bind fun t126 => (if t126 = true then ((spec_TxWritten.f k l1).bind fun t127 => ((spec_TxGood.f k l1 false).bind fun t128 => (if t128 = true then ((spec_TxAttribute.f a0).bind fun t129 => (if t129 = true then ((impl_TextColorPrint.f k a0 (([t127] : List ByteArray))).bind fun t133 => ((impl_TextColorSeq.f k a0).bind fun t134 => ((impl_TextEscape.f t127 t134).bind fun t135 => (if t133.toList = t135.toList then ((impl_TextColorSeq.f k a0).bind fun t136 => (some (t136.toList != ([] : List UInt8)))) else (some false))))) else (some true))) else (some true)))) else (some true))) = some r := h
  clear h
  replace H := Option.bind_eq_some_iff.mp H
  obtain ⟨t126, A30, H⟩ := H
  replace H : (if t126 = true then ((spec_TxWritten.f k l1).bind fun t127 => ((spec_TxGood.f k l1 false).bind fun t128 => (if t128 = true then ((spec_TxAttribute.f a0).bind fun t129 => (if t129 = true then ((impl_TextColorPrint.f k a0 (([t127] : List ByteArray))).bind fun t133 => ((impl_TextColorSeq.f k a0).bind fun t134 => ((impl_TextEscape.f t127 t134).bind fun t135 => (if t133.toList = t135.toList then ((impl_TextColorSeq.f k a0).bind fun t136 => (some (t136.toList != ([] : List UInt8)))) else (some false))))) else (some true))) else (some true)))) else (some true)) = some r := H
  have A3 := Aside0.mk A30
  clear A30
  by_cases c4 : t126 = true
  · subst c4
    have H1 : ((spec_TxWritten.f k l1).bind fun t127 => ((spec_TxGood.f k l1 false).bind fun t128 => (if t128 = true then ((spec_TxAttribute.f a0).bind fun t129 => (if t129 = true then ((impl_TextColorPrint.f k a0 (([t127] : List ByteArray))).bind fun t133 => ((impl_TextColorSeq.f k a0).bind fun t134 => ((impl_TextEscape.f t127 t134).bind fun t135 => (if t133.toList = t135.toList then ((impl_TextColorSeq.f k a0).bind fun t136 => (some (t136.toList != ([] : List UInt8)))) else (some false))))) else (some true))) else (some true)))) = some r := by rw [if_pos rfl] at H; exact H
    clear H
    have H := H1
    clear H1
    replace H := Option.bind_eq_some_iff.mp H
    obtain ⟨t127, A50, H⟩ := H
    replace H : ((spec_TxGood.f k l1 false).bind fun t128 => (if t128 = true then ((spec_TxAttribute.f a0).bind fun t129 => (if t129 = true then ((impl_TextColorPrint.f k a0 (([t127] : List ByteArray))).bind fun t133 => ((impl_TextColorSeq.f k a0).bind fun t134 => ((impl_TextEscape.f t127 t134).bind fun t135 => (if t133.toList = t135.toList then ((impl_TextColorSeq.f k a0).bind fun t136 => (some (t136.toList != ([] : List UInt8)))) else (some false))))) else (some true))) else (some true))) = some r := H
    have A5 := Aside0.mk A50
    clear A50
    replace H := Option.bind_eq_some_iff.mp H
    obtain ⟨t128, A60, H⟩ := H
    replace H : (if t128 = true then ((spec_TxAttribute.f a0).bind fun t129 => (if t129 = true then ((impl_TextColorPrint.f k a0 (([t127] : List ByteArray))).bind fun t133 => ((impl_TextColorSeq.f k a0).bind fun t134 => ((impl_TextEscape.f t127 t134).bind fun t135 => (if t133.toList = t135.toList then ((impl_TextColorSeq.f k a0).bind fun t136 => (some (t136.toList != ([] : List UInt8)))) else (some false))))) else (some true))) else (some true)) = some r := H
    have A6 := Aside0.mk A60
    clear A60
    by_cases c7 : t128 = true
    · subst c7
      have H1 : ((spec_TxAttribute.f a0).bind fun t129 => (if t129 = true then ((impl_TextColorPrint.f k a0 (([t127] : List ByteArray))).bind fun t133 => ((impl_TextColorSeq.f k a0).bind fun t134 => ((impl_TextEscape.f t127 t134).bind fun t135 => (if t133.toList = t135.toList then ((impl_TextColorSeq.f k a0).bind fun t136 => (some (t136.toList != ([] : List UInt8)))) else (some false))))) else (some true))) = some r := by rw [if_pos rfl] at H; exact H
      clear H
      have H := H1
      clear H1
      replace H := Option.bind_eq_some_iff.mp H
      obtain ⟨t129, A80, H⟩ := H
      replace H : (if t129 = true then ((impl_TextColorPrint.f k a0 (([t127] : List ByteArray))).bind fun t133 => ((impl_TextColorSeq.f k a0).bind fun t134 => ((impl_TextEscape.f t127 t134).bind fun t135 => (if t133.toList = t135.toList then ((impl_TextColorSeq.f k a0).bind fun t136 => (some (t136.toList != ([] : List UInt8)))) else (some false))))) else (some true)) = some r := H
      have A8 := Aside0.mk A80
      clear A80
      by_cases c9 : t129 = true
      · subst c9
        have H1 : ((impl_TextColorPrint.f k a0 (([t127] : List ByteArray))).bind fun t133 => ((impl_TextColorSeq.f k a0).bind fun t134 => ((impl_TextEscape.f t127 t134).bind fun t135 => (if t133.toList = t135.toList then ((impl_TextColorSeq.f k a0).bind fun t136 => (some (t136.toList != ([] : List UInt8)))) else (some false))))) = some r := by rw [if_pos rfl] at H; exact H
        clear H
        have H := H1
        clear H1
        obtain ⟨y130, hy130⟩ : ∃ y_ : List ByteArray, y_ = (([t127] : List ByteArray)) := ⟨_, rfl⟩
        replace H : ((impl_TextColorPrint.f k a0 y130).bind fun t133 => ((impl_TextColorSeq.f k a0).bind fun t134 => ((impl_TextEscape.f t127 t134).bind fun t135 => (if t133.toList = t135.toList then ((impl_TextColorSeq.f k a0).bind fun t136 => (some (t136.toList != ([] : List UInt8)))) else (some false))))) = some r := by first | (rw [hy130]; with_reducible exact H) | (have H2_ := (Option.bind_some _ _).symm.trans H; rw [hy130]; with_reducible exact H2_) | (have H2_ := (Option.bind_some _ _).symm.trans H; with_reducible exact H2_) | with_reducible exact H | (rw [hy130]; exact H) | exact H
        have Ny130 := Aside0.mk hy130
        clear hy130
        replace H := Option.bind_eq_some_iff.mp H
        obtain ⟨t133, A100, H⟩ := H
        replace H : ((impl_TextColorSeq.f k a0).bind fun t134 => ((impl_TextEscape.f t127 t134).bind fun t135 => (if t133.toList = t135.toList then ((impl_TextColorSeq.f k a0).bind fun t136 => (some (t136.toList != ([] : List UInt8)))) else (some false)))) = some r := H
        have A10 := Aside0.mk A100
        clear A100
        replace H := Option.bind_eq_some_iff.mp H
        obtain ⟨t134, A110, H⟩ := H
        replace H : ((impl_TextEscape.f t127 t134).bind fun t135 => (if t133.toList = t135.toList then ((impl_TextColorSeq.f k a0).bind fun t136 => (some (t136.toList != ([] : List UInt8)))) else (some false))) = some r := H
        have A11 := Aside0.mk A110
        clear A110
        replace H := Option.bind_eq_some_iff.mp H
        obtain ⟨t135, A120, H⟩ := H
        replace H : (if t133.toList = t135.toList then ((impl_TextColorSeq.f k a0).bind fun t136 => (some (t136.toList != ([] : List UInt8)))) else (some false)) = some r := H
        have A12 := Aside0.mk A120
        clear A120
        by_cases c13 : t133.toList = t135.toList
        · rw [if_pos c13] at H
          have c13b0 : (t133.toList == t135.toList) = true := beq_iff_eq.mpr c13
          have c13b1 : (t133.toList != t135.toList) = false := bne_eq_false_iff_eq.mpr c13
          clear c13
          replace H := Option.bind_eq_some_iff.mp H
          obtain ⟨t136, A140, H⟩ := H
          replace H : (some (t136.toList != ([] : List UInt8))) = some r := H
          have A14 := Aside0.mk A140
          clear A140
          obtain rfl := Option.some.inj H
          go_enter Tryd.func4, Tryd.ntmps4
          go_wp2_with (first | ((with_reducible refine gate_callee (f := 12) rfl ?_); refine goesL_ (some 7) rfl rfl Tryd.func12 (by kernel_rfl) rfl #[.slice A1 l1.length c1] rfl (by (try simp only [List.map_toArray, List.map_cons, List.map_nil]); first | done | rfl | (simp only [List.length_drop, List.length_take]; rfl)) ?_; (with_reducible refine (laws_zzFits15.calls k _ _ l1 true _ ?side1 ?side2 A3.out).mono ?_); (case side1 => repeat (first | exact HR1.out | (with_reducible refine Kd.C_alloc ?_ _) | (with_reducible refine Kd.C_drewN ?_ _) | (with_reducible refine Kd.C_drew ?_))); (case side2 => exact HC1.out); rintro e w15 ⟨rfl, hb⟩; refine ⟨_, rfl, ?_⟩; have n0_ := Aside0.mk (below_step (by repeat (first | (with_reducible first | exact HB.out | apply below_alloc | apply pw_below_drewN | apply below_drew1) | exact HB.out)) hb); clear HB; have HB := n0_; clear n0_; (try clear hb); (try clear hb2); (try clear hk); (try clear hi)) | ((with_reducible refine gate_callee (f := 13) rfl ?_); refine goesL_ (some 10) rfl rfl Tryd.func13 (by kernel_rfl) rfl #[.slice A1 l1.length c1] rfl (by (try simp only [List.map_toArray, List.map_cons, List.map_nil]); first | done | rfl | (simp only [List.length_drop, List.length_take]; rfl)) ?_; (with_reducible refine (spec_TxWritten.calls k _ _ l1 t127 _ (tab_step HTW.out (by repeat (first | (with_reducible first | exact HB.out | apply below_alloc | apply pw_below_drewN | apply below_drew1) | exact HB.out))) ?side1 ?side2 A5.out).mono ?_); (case side1 => repeat (first | exact (Kd.C_below HR1.out HB.out) | (with_reducible refine Kd.C_alloc ?_ _) | (with_reducible refine Kd.C_drewN ?_ _) | (with_reducible refine Kd.C_drew ?_))); (case side2 => exact HC1.out); rintro e w16 ⟨rfl, hb⟩; refine ⟨_, rfl, ?_⟩; have n0_ := Aside0.mk (below_step (by repeat (first | (with_reducible first | exact HB.out | apply below_alloc | apply pw_below_drewN | apply below_drew1) | exact HB.out)) hb); clear HB; have HB := n0_; clear n0_; (try clear hb); (try clear hb2); (try clear hk); (try clear hi)) | ((with_reducible refine gate_callee (f := 14) rfl ?_); refine goesL_ (some 12) rfl rfl Tryd.func14 (by kernel_rfl) rfl #[.slice A1 l1.length c1, .bool false] rfl (by (try simp only [List.map_toArray, List.map_cons, List.map_nil]); first | done | rfl | (simp only [List.length_drop, List.length_take]; rfl)) ?_; (with_reducible refine (spec_TxGood.calls k _ _ l1 false true _ ?side1 ?side2 A6.out).mono ?_); (case side1 => repeat (first | exact (Kd.C_below HR1.out HB.out) | (with_reducible refine Kd.C_alloc ?_ _) | (with_reducible refine Kd.C_drewN ?_ _) | (with_reducible refine Kd.C_drew ?_))); (case side2 => exact HC1.out); rintro e w17 ⟨rfl, hb⟩; refine ⟨_, rfl, ?_⟩; have n0_ := Aside0.mk (below_step (by repeat (first | (with_reducible first | exact HB.out | apply below_alloc | apply pw_below_drewN | apply below_drew1) | exact HB.out)) hb); clear HB; have HB := n0_; clear n0_; (try clear hb); (try clear hb2); (try clear hk); (try clear hi)) | (go_at_call 15; (with_reducible refine (spec_TxAttribute.calls a0 true _ A8.out).mono ?_); rintro e w' ⟨rfl, ⟨nd, rfl⟩⟩) | ((with_reducible refine gate_dst (N := 22) rfl ?_); (try (refine gate_guard (by rfl) ?_; dsimp only)); refine Kd.R_lit Kd.string _ 9 ?hg (N := 22) ?hd (xs := ([t127] : List ByteArray)) (inner := [.string t127]) (ok := fun _ => True) (okp := fun _ => True) ?hr ?hp (fun _ hk => hk) trivial (Below.refl _ _) (Nat.le_refl _) (by simp) ?_; (case hd => rfl); (case hg => rfl); (case hr => first | (go_simp; done) | (go_simp; rfl)); (case hp => exact (Reps.one (show Kd.M Kd.string _ _ _ t127 [.string t127] from rfl) (Reps.none _ _))); intro v131 w18 ho19 hb hg_ hnew_; clear hg_ hnew_; (first | rw [← Ny130.out] at ho19 | (simp only [Int.reduceToNat] at ho19; rw [← Ny130.out] at ho19)); have n0_ := Aside0.mk (Kd.R_lower ho19 (below_size (by repeat (first | (with_reducible first | exact HB.out | apply below_alloc | apply pw_below_drewN | apply below_drew1) | exact HB.out)))); have n1_ := Aside0.mk (below_step (by repeat (first | (with_reducible first | exact HB.out | apply below_alloc | apply pw_below_drewN | apply below_drew1) | exact HB.out)) hb); clear HB; have HO132 := n0_; have HB := n1_; clear n0_ n1_; clear hb ho19; obtain ⟨Ao20, co20, eo20⟩ := Kd.R_slice HO132.out; subst eo20) | (go_at_call 16; (with_reducible refine (impl_TextColorPrint.calls k a0 _ _ y130 t133 _ ?side1 ?side2 A10.out).mono ?_); (case side1 => repeat (first | exact (Kd.R_reads' HO132.out).2.2 | (with_reducible refine Kd.C_alloc ?_ _) | (with_reducible refine Kd.C_drewN ?_ _) | (with_reducible refine Kd.C_drew ?_))); (case side2 => exact (Kd.R_reads' HO132.out).2.1); rintro e w21 ⟨rfl, hb⟩; have n0_ := Aside0.mk (Kd.R_below (by (with_reducible repeat (first | apply Kd.R_alloc | apply Kd.R_drewN | apply Kd.R_drew)); exact HO132.out) hb); have n1_ := Aside0.mk (below_step (by repeat (first | (with_reducible first | exact HB.out | apply below_alloc | apply pw_below_drewN | apply below_drew1) | exact HB.out)) hb); clear HO132; clear HB; have HO132 := n0_; have HB := n1_; clear n0_ n1_; (try clear hb); (try clear hb2); (try clear hk); (try clear hi)) | (go_at_call 8; (with_reducible refine (impl_TextColorSeq.calls k a0 t134 _ A11.out).mono ?_); rintro e w22 ⟨rfl, hb⟩; have n0_ := Aside0.mk (Kd.R_below (by (with_reducible repeat (first | apply Kd.R_alloc | apply Kd.R_drewN | apply Kd.R_drew)); exact HO132.out) hb); have n1_ := Aside0.mk (below_step (by repeat (first | (with_reducible first | exact HB.out | apply below_alloc | apply pw_below_drewN | apply below_drew1) | exact HB.out)) hb); clear HO132; clear HB; have HO132 := n0_; have HB := n1_; clear n0_ n1_; (try clear hb); (try clear hb2); (try clear hk); (try clear hi)) | (go_at_call 17; (with_reducible refine (impl_TextEscape.calls t127 t134 t135 _ A12.out).mono ?_); rintro e w23 ⟨rfl, hb⟩; have n0_ := Aside0.mk (Kd.R_below (by (with_reducible repeat (first | apply Kd.R_alloc | apply Kd.R_drewN | apply Kd.R_drew)); exact HO132.out) hb); have n1_ := Aside0.mk (below_step (by repeat (first | (with_reducible first | exact HB.out | apply below_alloc | apply pw_below_drewN | apply below_drew1) | exact HB.out)) hb); clear HO132; clear HB; have HO132 := n0_; have HB := n1_; clear n0_ n1_; (try clear hb); (try clear hb2); (try clear hk); (try clear hi)) | (go_at_call 8; (with_reducible refine (impl_TextColorSeq.calls k a0 t136 _ A14.out).mono ?_); rintro e w24 ⟨rfl, hb⟩; have n0_ := Aside0.mk (Kd.R_below (by (with_reducible repeat (first | apply Kd.R_alloc | apply Kd.R_drewN | apply Kd.R_drew)); exact HO132.out) hb); have n1_ := Aside0.mk (below_step (by repeat (first | (with_reducible first | exact HB.out | apply below_alloc | apply pw_below_drewN | apply below_drew1) | exact HB.out)) hb); clear HO132; clear HB; have HO132 := n0_; have HB := n1_; clear n0_ n1_; (try clear hb); (try clear hb2); (try clear hk); (try clear hi)))
          go_ret
          exact ⟨by first | rfl | (have e_ := Option.some.inj (A11.out.symm.trans A14.out); subst e_; simp only [Ending.returned.injEq]; congr 1; cases t134.toList <;> rfl) | (have e_ := Option.some.inj (A11.out.symm.trans A14.out); subst e_; generalize t134.toList = l_; cases l_ <;> rfl) | (simp [errW_none, errW_some] <;> rfl) | (simp [*, errW_none, errW_some] <;> rfl), by repeat (first | (with_reducible first | exact HB.out | apply below_alloc | apply pw_below_drewN | apply below_drew1) | exact HB.out)⟩
        · rw [if_neg c13] at H
          have c13b0 : (t133.toList == t135.toList) = false := beq_eq_false_iff_ne.mpr c13
          have c13b1 : (t133.toList != t135.toList) = true := bne_iff_ne.mpr c13
          obtain rfl := Option.some.inj H
          go_enter Tryd.func4, Tryd.ntmps4
          go_wp2_with (first | ((with_reducible refine gate_callee (f := 12) rfl ?_); refine goesL_ (some 7) rfl rfl Tryd.func12 (by kernel_rfl) rfl #[.slice A1 l1.length c1] rfl (by (try simp only [List.map_toArray, List.map_cons, List.map_nil]); first | done | rfl | (simp only [List.length_drop, List.length_take]; rfl)) ?_; (with_reducible refine (laws_zzFits15.calls k _ _ l1 true _ ?side1 ?side2 A3.out).mono ?_); (case side1 => repeat (first | exact HR1.out | (with_reducible refine Kd.C_alloc ?_ _) | (with_reducible refine Kd.C_drewN ?_ _) | (with_reducible refine Kd.C_drew ?_))); (case side2 => exact HC1.out); rintro e w25 ⟨rfl, hb⟩; refine ⟨_, rfl, ?_⟩; have n0_ := Aside0.mk (below_step (by repeat (first | (with_reducible first | exact HB.out | apply below_alloc | apply pw_below_drewN | apply below_drew1) | exact HB.out)) hb); clear HB; have HB := n0_; clear n0_; (try clear hb); (try clear hb2); (try clear hk); (try clear hi)) | ((with_reducible refine gate_callee (f := 13) rfl ?_); refine goesL_ (some 10) rfl rfl Tryd.func13 (by kernel_rfl) rfl #[.slice A1 l1.length c1] rfl (by (try simp only [List.map_toArray, List.map_cons, List.map_nil]); first | done | rfl | (simp only [List.length_drop, List.length_take]; rfl)) ?_; (with_reducible refine (spec_TxWritten.calls k _ _ l1 t127 _ (tab_step HTW.out (by repeat (first | (with_reducible first | exact HB.out | apply below_alloc | apply pw_below_drewN | apply below_drew1) | exact HB.out))) ?side1 ?side2 A5.out).mono ?_); (case side1 => repeat (first | exact (Kd.C_below HR1.out HB.out) | (with_reducible refine Kd.C_alloc ?_ _) | (with_reducible refine Kd.C_drewN ?_ _) | (with_reducible refine Kd.C_drew ?_))); (case side2 => exact HC1.out); rintro e w26 ⟨rfl, hb⟩; refine ⟨_, rfl, ?_⟩; have n0_ := Aside0.mk (below_step (by repeat (first | (with_reducible first | exact HB.out | apply below_alloc | apply pw_below_drewN | apply below_drew1) | exact HB.out)) hb); clear HB; have HB := n0_; clear n0_; (try clear hb); (try clear hb2); (try clear hk); (try clear hi)) | ((with_reducible refine gate_callee (f := 14) rfl ?_); refine goesL_ (some 12) rfl rfl Tryd.func14 (by kernel_rfl) rfl #[.slice A1 l1.length c1, .bool false] rfl (by (try simp only [List.map_toArray, List.map_cons, List.map_nil]); first | done | rfl | (simp only [List.length_drop, List.length_take]; rfl)) ?_; (with_reducible refine (spec_TxGood.calls k _ _ l1 false true _ ?side1 ?side2 A6.out).mono ?_); (case side1 => repeat (first | exact (Kd.C_below HR1.out HB.out) | (with_reducible refine Kd.C_alloc ?_ _) | (with_reducible refine Kd.C_drewN ?_ _) | (with_reducible refine Kd.C_drew ?_))); (case side2 => exact HC1.out); rintro e w27 ⟨rfl, hb⟩; refine ⟨_, rfl, ?_⟩; have n0_ := Aside0.mk (below_step (by repeat (first | (with_reducible first | exact HB.out | apply below_alloc | apply pw_below_drewN | apply below_drew1) | exact HB.out)) hb); clear HB; have HB := n0_; clear n0_; (try clear hb); (try clear hb2); (try clear hk); (try clear hi)) | (go_at_call 15; (with_reducible refine (spec_TxAttribute.calls a0 true _ A8.out).mono ?_); rintro e w' ⟨rfl, ⟨nd, rfl⟩⟩) | ((with_reducible refine gate_dst (N := 22) rfl ?_); (try (refine gate_guard (by rfl) ?_; dsimp only)); refine Kd.R_lit Kd.string _ 9 ?hg (N := 22) ?hd (xs := ([t127] : List ByteArray)) (inner := [.string t127]) (ok := fun _ => True) (okp := fun _ => True) ?hr ?hp (fun _ hk => hk) trivial (Below.refl _ _) (Nat.le_refl _) (by simp) ?_; (case hd => rfl); (case hg => rfl); (case hr => first | (go_simp; done) | (go_simp; rfl)); (case hp => exact (Reps.one (show Kd.M Kd.string _ _ _ t127 [.string t127] from rfl) (Reps.none _ _))); intro v131 w28 ho29 hb hg_ hnew_; clear hg_ hnew_; (first | rw [← Ny130.out] at ho29 | (simp only [Int.reduceToNat] at ho29; rw [← Ny130.out] at ho29)); have n0_ := Aside0.mk (Kd.R_lower ho29 (below_size (by repeat (first | (with_reducible first | exact HB.out | apply below_alloc | apply pw_below_drewN | apply below_drew1) | exact HB.out)))); have n1_ := Aside0.mk (below_step (by repeat (first | (with_reducible first | exact HB.out | apply below_alloc | apply pw_below_drewN | apply below_drew1) | exact HB.out)) hb); clear HB; have HO132 := n0_; have HB := n1_; clear n0_ n1_; clear hb ho29; obtain ⟨Ao30, co30, eo30⟩ := Kd.R_slice HO132.out; subst eo30) | (go_at_call 16; (with_reducible refine (impl_TextColorPrint.calls k a0 _ _ y130 t133 _ ?side1 ?side2 A10.out).mono ?_); (case side1 => repeat (first | exact (Kd.R_reads' HO132.out).2.2 | (with_reducible refine Kd.C_alloc ?_ _) | (with_reducible refine Kd.C_drewN ?_ _) | (with_reducible refine Kd.C_drew ?_))); (case side2 => exact (Kd.R_reads' HO132.out).2.1); rintro e w31 ⟨rfl, hb⟩; have n0_ := Aside0.mk (Kd.R_below (by (with_reducible repeat (first | apply Kd.R_alloc | apply Kd.R_drewN | apply Kd.R_drew)); exact HO132.out) hb); have n1_ := Aside0.mk (below_step (by repeat (first | (with_reducible first | exact HB.out | apply below_alloc | apply pw_below_drewN | apply below_drew1) | exact HB.out)) hb); clear HO132; clear HB; have HO132 := n0_; have HB := n1_; clear n0_ n1_; (try clear hb); (try clear hb2); (try clear hk); (try clear hi)) | (go_at_call 8; (with_reducible refine (impl_TextColorSeq.calls k a0 t134 _ A11.out).mono ?_); rintro e w32 ⟨rfl, hb⟩; have n0_ := Aside0.mk (Kd.R_below (by (with_reducible repeat (first | apply Kd.R_alloc | apply Kd.R_drewN | apply Kd.R_drew)); exact HO132.out) hb); have n1_ := Aside0.mk (below_step (by repeat (first | (with_reducible first | exact HB.out | apply below_alloc | apply pw_below_drewN | apply below_drew1) | exact HB.out)) hb); clear HO132; clear HB; have HO132 := n0_; have HB := n1_; clear n0_ n1_; (try clear hb); (try clear hb2); (try clear hk); (try clear hi)) | (go_at_call 17; (with_reducible refine (impl_TextEscape.calls t127 t134 t135 _ A12.out).mono ?_); rintro e w33 ⟨rfl, hb⟩; have n0_ := Aside0.mk (Kd.R_below (by (with_reducible repeat (first | apply Kd.R_alloc | apply Kd.R_drewN | apply Kd.R_drew)); exact HO132.out) hb); have n1_ := Aside0.mk (below_step (by repeat (first | (with_reducible first | exact HB.out | apply below_alloc | apply pw_below_drewN | apply below_drew1) | exact HB.out)) hb); clear HO132; clear HB; have HO132 := n0_; have HB := n1_; clear n0_ n1_; (try clear hb); (try clear hb2); (try clear hk); (try clear hi)))
          go_ret
          exact ⟨by first | rfl | (have e_ := Option.some.inj (A11.out.symm.trans A14.out); subst e_; simp only [Ending.returned.injEq]; congr 1; cases t134.toList <;> rfl) | (have e_ := Option.some.inj (A11.out.symm.trans A14.out); subst e_; generalize t134.toList = l_; cases l_ <;> rfl) | (simp [errW_none, errW_some] <;> rfl) | (simp [*, errW_none, errW_some] <;> rfl), by repeat (first | (with_reducible first | exact HB.out | apply below_alloc | apply pw_below_drewN | apply below_drew1) | exact HB.out)⟩
      · replace c9 := Bool.eq_false_iff.mpr c9
        subst c9
        have H1 : (some true) = some r := by rw [if_neg (show ¬ (false = true) by decide)] at H; exact H
        clear H
        have H := H1
        clear H1
        obtain rfl := Option.some.inj H
        go_enter Tryd.func4, Tryd.ntmps4
        go_wp2_with (first | ((with_reducible refine gate_callee (f := 12) rfl ?_); refine goesL_ (some 7) rfl rfl Tryd.func12 (by kernel_rfl) rfl #[.slice A1 l1.length c1] rfl (by (try simp only [List.map_toArray, List.map_cons, List.map_nil]); first | done | rfl | (simp only [List.length_drop, List.length_take]; rfl)) ?_; (with_reducible refine (laws_zzFits15.calls k _ _ l1 true _ ?side1 ?side2 A3.out).mono ?_); (case side1 => repeat (first | exact HR1.out | (with_reducible refine Kd.C_alloc ?_ _) | (with_reducible refine Kd.C_drewN ?_ _) | (with_reducible refine Kd.C_drew ?_))); (case side2 => exact HC1.out); rintro e w34 ⟨rfl, hb⟩; refine ⟨_, rfl, ?_⟩; have n0_ := Aside0.mk (below_step (by repeat (first | (with_reducible first | exact HB.out | apply below_alloc | apply pw_below_drewN | apply below_drew1) | exact HB.out)) hb); clear HB; have HB := n0_; clear n0_; (try clear hb); (try clear hb2); (try clear hk); (try clear hi)) | ((with_reducible refine gate_callee (f := 13) rfl ?_); refine goesL_ (some 10) rfl rfl Tryd.func13 (by kernel_rfl) rfl #[.slice A1 l1.length c1] rfl (by (try simp only [List.map_toArray, List.map_cons, List.map_nil]); first | done | rfl | (simp only [List.length_drop, List.length_take]; rfl)) ?_; (with_reducible refine (spec_TxWritten.calls k _ _ l1 t127 _ (tab_step HTW.out (by repeat (first | (with_reducible first | exact HB.out | apply below_alloc | apply pw_below_drewN | apply below_drew1) | exact HB.out))) ?side1 ?side2 A5.out).mono ?_); (case side1 => repeat (first | exact (Kd.C_below HR1.out HB.out) | (with_reducible refine Kd.C_alloc ?_ _) | (with_reducible refine Kd.C_drewN ?_ _) | (with_reducible refine Kd.C_drew ?_))); (case side2 => exact HC1.out); rintro e w35 ⟨rfl, hb⟩; refine ⟨_, rfl, ?_⟩; have n0_ := Aside0.mk (below_step (by repeat (first | (with_reducible first | exact HB.out | apply below_alloc | apply pw_below_drewN | apply below_drew1) | exact HB.out)) hb); clear HB; have HB := n0_; clear n0_; (try clear hb); (try clear hb2); (try clear hk); (try clear hi)) | ((with_reducible refine gate_callee (f := 14) rfl ?_); refine goesL_ (some 12) rfl rfl Tryd.func14 (by kernel_rfl) rfl #[.slice A1 l1.length c1, .bool false] rfl (by (try simp only [List.map_toArray, List.map_cons, List.map_nil]); first | done | rfl | (simp only [List.length_drop, List.length_take]; rfl)) ?_; (with_reducible refine (spec_TxGood.calls k _ _ l1 false true _ ?side1 ?side2 A6.out).mono ?_); (case side1 => repeat (first | exact (Kd.C_below HR1.out HB.out) | (with_reducible refine Kd.C_alloc ?_ _) | (with_reducible refine Kd.C_drewN ?_ _) | (with_reducible refine Kd.C_drew ?_))); (case side2 => exact HC1.out); rintro e w36 ⟨rfl, hb⟩; refine ⟨_, rfl, ?_⟩; have n0_ := Aside0.mk (below_step (by repeat (first | (with_reducible first | exact HB.out | apply below_alloc | apply pw_below_drewN | apply below_drew1) | exact HB.out)) hb); clear HB; have HB := n0_; clear n0_; (try clear hb); (try clear hb2); (try clear hk); (try clear hi)) | (go_at_call 15; (with_reducible refine (spec_TxAttribute.calls a0 false _ A8.out).mono ?_); rintro e w' ⟨rfl, ⟨nd, rfl⟩⟩))
        go_ret
        exact ⟨by first | rfl | (have e_ := Option.some.inj (A11.out.symm.trans A14.out); subst e_; simp only [Ending.returned.injEq]; congr 1; cases t134.toList <;> rfl) | (have e_ := Option.some.inj (A11.out.symm.trans A14.out); subst e_; generalize t134.toList = l_; cases l_ <;> rfl) | (simp [errW_none, errW_some] <;> rfl) | (simp [*, errW_none, errW_some] <;> rfl), by repeat (first | (with_reducible first | exact HB.out | apply below_alloc | apply pw_below_drewN | apply below_drew1) | exact HB.out)⟩
    · replace c7 := Bool.eq_false_iff.mpr c7
      subst c7
      have H1 : (some true) = some r := by rw [if_neg (show ¬ (false = true) by decide)] at H; exact H
      clear H
      have H := H1
      clear H1
      obtain rfl := Option.some.inj H
      go_enter Tryd.func4, Tryd.ntmps4
      go_wp2_with (first | ((with_reducible refine gate_callee (f := 12) rfl ?_); refine goesL_ (some 7) rfl rfl Tryd.func12 (by kernel_rfl) rfl #[.slice A1 l1.length c1] rfl (by (try simp only [List.map_toArray, List.map_cons, List.map_nil]); first | done | rfl | (simp only [List.length_drop, List.length_take]; rfl)) ?_; (with_reducible refine (laws_zzFits15.calls k _ _ l1 true _ ?side1 ?side2 A3.out).mono ?_); (case side1 => repeat (first | exact HR1.out | (with_reducible refine Kd.C_alloc ?_ _) | (with_reducible refine Kd.C_drewN ?_ _) | (with_reducible refine Kd.C_drew ?_))); (case side2 => exact HC1.out); rintro e w37 ⟨rfl, hb⟩; refine ⟨_, rfl, ?_⟩; have n0_ := Aside0.mk (below_step (by repeat (first | (with_reducible first | exact HB.out | apply below_alloc | apply pw_below_drewN | apply below_drew1) | exact HB.out)) hb); clear HB; have HB := n0_; clear n0_; (try clear hb); (try clear hb2); (try clear hk); (try clear hi)) | ((with_reducible refine gate_callee (f := 13) rfl ?_); refine goesL_ (some 10) rfl rfl Tryd.func13 (by kernel_rfl) rfl #[.slice A1 l1.length c1] rfl (by (try simp only [List.map_toArray, List.map_cons, List.map_nil]); first | done | rfl | (simp only [List.length_drop, List.length_take]; rfl)) ?_; (with_reducible refine (spec_TxWritten.calls k _ _ l1 t127 _ (tab_step HTW.out (by repeat (first | (with_reducible first | exact HB.out | apply below_alloc | apply pw_below_drewN | apply below_drew1) | exact HB.out))) ?side1 ?side2 A5.out).mono ?_); (case side1 => repeat (first | exact (Kd.C_below HR1.out HB.out) | (with_reducible refine Kd.C_alloc ?_ _) | (with_reducible refine Kd.C_drewN ?_ _) | (with_reducible refine Kd.C_drew ?_))); (case side2 => exact HC1.out); rintro e w38 ⟨rfl, hb⟩; refine ⟨_, rfl, ?_⟩; have n0_ := Aside0.mk (below_step (by repeat (first | (with_reducible first | exact HB.out | apply below_alloc | apply pw_below_drewN | apply below_drew1) | exact HB.out)) hb); clear HB; have HB := n0_; clear n0_; (try clear hb); (try clear hb2); (try clear hk); (try clear hi)) | ((with_reducible refine gate_callee (f := 14) rfl ?_); refine goesL_ (some 12) rfl rfl Tryd.func14 (by kernel_rfl) rfl #[.slice A1 l1.length c1, .bool false] rfl (by (try simp only [List.map_toArray, List.map_cons, List.map_nil]); first | done | rfl | (simp only [List.length_drop, List.length_take]; rfl)) ?_; (with_reducible refine (spec_TxGood.calls k _ _ l1 false false _ ?side1 ?side2 A6.out).mono ?_); (case side1 => repeat (first | exact (Kd.C_below HR1.out HB.out) | (with_reducible refine Kd.C_alloc ?_ _) | (with_reducible refine Kd.C_drewN ?_ _) | (with_reducible refine Kd.C_drew ?_))); (case side2 => exact HC1.out); rintro e w39 ⟨rfl, hb⟩; refine ⟨_, rfl, ?_⟩; have n0_ := Aside0.mk (below_step (by repeat (first | (with_reducible first | exact HB.out | apply below_alloc | apply pw_below_drewN | apply below_drew1) | exact HB.out)) hb); clear HB; have HB := n0_; clear n0_; (try clear hb); (try clear hb2); (try clear hk); (try clear hi)))
      go_ret
      exact ⟨by first | rfl | (have e_ := Option.some.inj (A11.out.symm.trans A14.out); subst e_; simp only [Ending.returned.injEq]; congr 1; cases t134.toList <;> rfl) | (have e_ := Option.some.inj (A11.out.symm.trans A14.out); subst e_; generalize t134.toList = l_; cases l_ <;> rfl) | (simp [errW_none, errW_some] <;> rfl) | (simp [*, errW_none, errW_some] <;> rfl), by repeat (first | (with_reducible first | exact HB.out | apply below_alloc | apply pw_below_drewN | apply below_drew1) | exact HB.out)⟩
  · replace c4 := Bool.eq_false_iff.mpr c4
    subst c4
    have H1 : (some true) = some r := by rw [if_neg (show ¬ (false = true) by decide)] at H; exact H
    clear H
    have H := H1
    clear H1
    obtain rfl := Option.some.inj H
    go_enter Tryd.func4, Tryd.ntmps4
    go_wp2_with (first | ((with_reducible refine gate_callee (f := 12) rfl ?_); refine goesL_ (some 7) rfl rfl Tryd.func12 (by kernel_rfl) rfl #[.slice A1 l1.length c1] rfl (by (try simp only [List.map_toArray, List.map_cons, List.map_nil]); first | done | rfl | (simp only [List.length_drop, List.length_take]; rfl)) ?_; (with_reducible refine (laws_zzFits15.calls k _ _ l1 false _ ?side1 ?side2 A3.out).mono ?_); (case side1 => repeat (first | exact HR1.out | (with_reducible refine Kd.C_alloc ?_ _) | (with_reducible refine Kd.C_drewN ?_ _) | (with_reducible refine Kd.C_drew ?_))); (case side2 => exact HC1.out); rintro e w40 ⟨rfl, hb⟩; refine ⟨_, rfl, ?_⟩; have n0_ := Aside0.mk (below_step (by repeat (first | (with_reducible first | exact HB.out | apply below_alloc | apply pw_below_drewN | apply below_drew1) | exact HB.out)) hb); clear HB; have HB := n0_; clear n0_; (try clear hb); (try clear hb2); (try clear hk); (try clear hi)))
    go_ret
    exact ⟨by first | rfl | (have e_ := Option.some.inj (A11.out.symm.trans A14.out); subst e_; simp only [Ending.returned.injEq]; congr 1; cases t134.toList <;> rfl) | (have e_ := Option.some.inj (A11.out.symm.trans A14.out); subst e_; generalize t134.toList = l_; cases l_ <;> rfl) | (simp [errW_none, errW_some] <;> rfl) | (simp [*, errW_none, errW_some] <;> rfl), by repeat (first | (with_reducible first | exact HB.out | apply below_alloc | apply pw_below_drewN | apply below_drew1) | exact HB.out)⟩

-- GIVEN: impl_TextStrip

/-! ### spec_TxPlain: function 19 -/
def spec_TxPlain.l0 : Nat → ByteArray → List (S46) → Int → Int → Option (ByteArray)
  | 0, _, _, _, _ => none
  | k + 1, x3, x6, x7, x8 => if x8 < x7 then (if 0 ≤ x8 then (if x8 < (x6.length : Int) then (if x3.size + ((rd_T46 x6 x8).f1).size ≤ 9223372036854775807 then (spec_TxPlain.l0 k (x3 ++ ((rd_T46 x6 x8).f1)) x6 x7 (wrap64 (x8 + 1))) else (none)) else (none)) else (none)) else (some x3)
def spec_TxPlain.f (k : Nat) (l0 : List (S46)) : Option (ByteArray) := spec_TxPlain.l0 k (⟨#[]⟩ : ByteArray) l0 (l0.length : Int) 0
theorem spec_TxPlain.mono_l : ∀ k, (∀ y0 y1 y2 y3, LeO (spec_TxPlain.l0 k y0 y1 y2 y3) (spec_TxPlain.l0 (k + 1) y0 y1 y2 y3))
  | 0 => fun _ _ _ _ r h => by simp [spec_TxPlain.l0] at h
  | k + 1 => by
    have ih0 := spec_TxPlain.mono_l k
    · intro y0 y1 y2 y3
      unfold spec_TxPlain.l0
      repeat' first
      | (with_reducible exact ih0 _ _ _ _)
      | (with_reducible exact LeO.refl _)
      | (with_reducible exact LeO.none _)
      | (with_reducible refine LeO.ite ?_ ?_)
      | (with_reducible refine LeO.bind ?_ (fun _ => ?_))
      | exact ih0 _ _ _ _
      | exact LeO.none _
      | refine LeO.ite ?_ ?_
      | refine LeO.bind ?_ (fun _ => ?_)
theorem spec_TxPlain.mono : ∀ a0 k, LeO (spec_TxPlain.f k a0) (spec_TxPlain.f (k + 1) a0) := by
  intro a0 k
  have ih0 := spec_TxPlain.mono_l k
  unfold spec_TxPlain.f
  repeat' first
      | (with_reducible exact ih0 _ _ _ _)
      | (with_reducible exact LeO.refl _)
      | (with_reducible exact LeO.none _)
      | (with_reducible refine LeO.ite ?_ ?_)
      | (with_reducible refine LeO.bind ?_ (fun _ => ?_))
      | exact ih0 _ _ _ _
      | exact LeO.none _
      | refine LeO.ite ?_ ?_
      | refine LeO.bind ?_ (fun _ => ?_)
set_option maxHeartbeats 8000000 in
set_option maxRecDepth 100000 in
theorem spec_TxPlain.calls (k : Nat) (A0 : Option Addr) (c0 : Nat) (l0 : List (S46)) (r : ByteArray) (w : World) (hr0 : Kd.C k46 w A0 l0.length l0) (hc0 : l0.length ≤ c0) (h : spec_TxPlain.f k l0 = some r) :
    Calls Tryd.prog 19 #[.slice A0 l0.length c0] w fun e w' => e = .returned (.string r) ∧ Below w.heap.size w w' := by
  have hu46 := Tryd.underlying46
  have HR0 := Aside0.mk hr0
  have HC0 := Aside0.mk hc0
  clear hr0 hc0
  have HB := Aside0.mk (Below.refl w.heap.size w)
  have H : (spec_TxPlain.l0 k (⟨#[]⟩ : ByteArray) l0 (l0.length : Int) 0) = some r := h
  clear h
  have H' := Aside0.mk H
  clear H
  go_enter Tryd.func19, Tryd.ntmps19
  go_wp2
  go_loopg [3, 8] k (fun kq v3 v8 w' => ∃ (x3_1 : ByteArray) (x8_1 : Int), v3 = .string x3_1 ∧ v8 = .int .i64 x8_1 ∧ Aside0 (spec_TxPlain.l0 kq x3_1 l0 (l0.length : Int) x8_1 = some r) ∧ Aside0 (kq ≤ k) ∧ Aside0 (Below w.heap.size w w'))
  case atStart => exact ⟨((⟨#[]⟩ : ByteArray)), (0), (by first | rfl | (simp; done) | (simp [*]; done)), (by first | rfl | (simp; done) | (simp [*]; done)), H', ⟨Nat.le_refl _⟩, ⟨by repeat (first | (with_reducible first | exact HB.out | apply below_alloc | apply pw_below_drewN | apply below_drew1) | exact HB.out)⟩⟩
  case round =>
    clear H'
    try clear c1
    obtain ⟨x3_1, x8_1, rfl, rfl, HA, HK1, HB⟩ := hrel
    cases gk with
    | zero => exact absurd HA.out (by simp [spec_TxPlain.l0])
    | succ k1 =>
      have H := HA.out
      clear HA
      simp only [spec_TxPlain.l0] at H
      by_cases c2 : x8_1 < (l0.length : Int)
      · rw [if_pos c2] at H
        have c2b0 : decide (x8_1 < (l0.length : Int)) = true := decide_eq_true c2
        clear c2
        by_cases c3 : 0 ≤ x8_1
        · rw [if_pos c3] at H
          have c3b0 : decide (0 ≤ x8_1) = true := decide_eq_true c3
          clear c3
          by_cases c4 : x8_1 < (l0.length : Int)
          · rw [if_pos c4] at H
            have c4b0 : decide (x8_1 < (l0.length : Int)) = true := decide_eq_true c4
            clear c4
            by_cases c5 : x3_1.size + ((rd_T46 l0 x8_1).f1).size ≤ 9223372036854775807
            · rw [if_pos c5] at H
              have c5b0 := eq_true c5
              have c5b1 : decide (x3_1.size + ((rd_T46 l0 x8_1).f1).size ≤ 9223372036854775807) = true := decide_eq_true c5
              try have c5b2 : (9223372036854775807 < x3_1.size + ((rd_T46 l0 x8_1).f1).size) = False := eq_false (Nat.not_lt.2 c5)
              have H' := Aside0.mk H
              clear H
              have p137 : 0 ≤ (x8_1 : Int) := of_decide_eq_true (by first | (with_reducible assumption) | assumption)
              have q137 : x8_1 < (l0.length : Int) := of_decide_eq_true (by first | (with_reducible assumption) | assumption)
              obtain ⟨ad137, A137_0, c137_0, e137, hx137_0, hx137_1, hl137_0, hi137_0⟩ := at_T46 HR0.out x8_1 p137 q137
              cases e137
              replace hx137_0 := (HB.out.cell (World.block_lt_of_cell? w _ hx137_0)).trans hx137_0
              replace hx137_1 := (HB.out.cell (World.block_lt_of_cell? w _ hx137_1)).trans hx137_1
              have HR137_0 := Aside0.mk hi137_0
              have HC137_0 := Aside0.mk hl137_0
              clear hi137_0 hl137_0
              replace p137 := eq_true p137
              replace q137 := eq_true q137
              go_wp2_with (first | ((with_reducible refine gate_dst (N := 5) rfl ?_); refine box_event ?hg (N := 5) ?hd (cs := #[.slice none 0 0, .string (⟨#[]⟩ : ByteArray)]) (t := 46) ?hr ?_; (case hd => rfl); (case hg => rfl); (case hr => first | (go_simp; done) | (go_simp; rfl)); intro gb138 hg w6 hbox hb; have n0_ := Aside0.mk (below_step (by repeat (first | (with_reducible first | exact HB.out | apply below_alloc | apply pw_below_drewN | apply below_drew1) | exact HB.out)) hb); have n1_ := Aside0.mk (hbox); have n2_ := Aside0.mk ((by rw [hg]; exact (below_size (by repeat (first | (with_reducible first | exact HB.out | apply below_alloc | apply pw_below_drewN | apply below_drew1) | exact HB.out))) : w.heap.size ≤ gb138)); have n3_ := Aside0.mk ((by rw [hg]; exact (below_size (by repeat (first | (with_reducible first | exact HB.out | apply below_alloc | apply pw_below_drewN | apply below_drew1) | exact HB.out))) : w.heap.size ≤ gb138)); clear HB; have HB := n0_; have BK138 := n1_; have GW138 := n2_; have GE138 := n3_; clear n0_ n1_ n2_ n3_; clear hb hbox hg; have hcz7_0 : w6.cell? ⟨gb138, 0, none⟩ = some (.slice none 0 0) := (blk_cell BK138.out 0).trans rfl; have hcz7_1 : w6.cell? ⟨gb138, 1, none⟩ = some (.string (⟨#[]⟩ : ByteArray)) := (blk_cell BK138.out 1).trans rfl; have hfz7_0 := blk_frozen BK138.out 0; have hfz7_1 := blk_frozen BK138.out 1))
              go_roundg k1
              case measure => have := HK1.out; omega
              case rel => exact ⟨(x3_1 ++ ((rd_T46 l0 x8_1).f1)), (wrap64 (x8_1 + 1)), (by first | rfl | (simp; done) | (simp [*]; done)), (by first | rfl | (simp; done) | (simp [*]; done)), H', ⟨by have := HK1.out; omega⟩, ⟨by repeat (first | (with_reducible first | exact HB.out | apply below_alloc | apply pw_below_drewN | apply below_drew1 | refine below_set ?_ GE138.out) | exact HB.out)⟩⟩
            · rw [if_neg c5] at H
              exact absurd H (by simp)
          · rw [if_neg c4] at H
            exact absurd H (by simp)
        · rw [if_neg c3] at H
          exact absurd H (by simp)
      · rw [if_neg c2] at H
        have c2b0 : decide (x8_1 < (l0.length : Int)) = false := decide_eq_false c2
        clear c2
        obtain rfl := Option.some.inj H
        go_wp2
        go_ret
        exact ⟨by first | rfl | (have e_ := Option.some.inj (A11.out.symm.trans A14.out); subst e_; simp only [Ending.returned.injEq]; congr 1; cases t134.toList <;> rfl) | (have e_ := Option.some.inj (A11.out.symm.trans A14.out); subst e_; generalize t134.toList = l_; cases l_ <;> rfl) | (simp [errW_none, errW_some] <;> rfl) | (simp [*, errW_none, errW_some] <;> rfl), by repeat (first | (with_reducible first | exact HB.out | apply below_alloc | apply pw_below_drewN | apply below_drew1) | exact HB.out)⟩

end Go.Proofs.YtkfkhafmgndgaaaRRDoor.GT
