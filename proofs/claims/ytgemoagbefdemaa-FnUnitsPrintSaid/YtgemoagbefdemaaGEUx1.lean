-- printed by a program of this session (gprint.py) out of the translation; Lean checks it
import Derived.Test.YtgemoagbefdemaaGEUx0
namespace Go.Proofs.Ytgemoagbefdemaa.GEU
open Go.RowKit Go.Proofs.YtgemoagbefdemaaW.PrintWords Go.Proofs.YtgemoagbefdemaaW.PrintLast Go.RowKit Go.Proofs.YtgemoagbefdemaaW.PrintMore
attribute [local go_sem] max2_int min2_int max_two min_two max_three min_three max_four min_four   -- for this text's walks alone
set_option linter.unusedVariables false
set_option linter.unusedSimpArgs false

/-- A state of type 52 at block g of W; what its slices lead to came in by w0. -/
def IsS52 (w0 W : World) (g : Nat) (f0 : List Int) (f1 : Int) : Prop := ∃ A0 c0, W.heap[g]? = some (.cells #[.slice A0 f0.length c0, .int .i64 f1] 52 (0, 0)) ∧ w0.heap.size ≤ g ∧ Kd.C (Kd.int .u8) w0 A0 f0.length f0
theorem IsS52.grown {w0 W : World} {g : Nat} {f0 : List Int} {f1 : Int} {W1 : World} {row : Option Nat} (h : IsS52 w0 W g f0 f1) (hw : W.grownBy W1 row) (hne : some g ≠ row) : IsS52 w0 W1 g f0 f1 := by
  obtain ⟨A0, c0, hb, hg, hr0⟩ := h
  exact ⟨A0, c0, blk_grown hb hw hne, hg, hr0⟩
theorem IsS52.own_neN {w0 W : World} {g : Nat} {f0 : List Int} {f1 : Int} {α : Type} {d : Kd α} {e : Nat} {base : Nat} {ok : Nat → Prop} {v : Value} {xs : List α} (h : IsS52 w0 W g f0 f1) (ho : Kd.N d e W base ok v xs) (ht : e ≠ 52) : some g ≠ v.ownBlock := by
  obtain ⟨A0, c0, hb, hg, hr0⟩ := h
  exact Kd.N_ne ho hb ht
theorem IsS52.fresh {w0 W : World} {g : Nat} {f0 : List Int} {f1 : Int} (h : IsS52 w0 W g f0 f1) : ∀ k, W.heap.size ≤ k → k ≠ g := by
  obtain ⟨A0, c0, hb, hg, hr0⟩ := h
  exact Kd.freshB hb
theorem IsS52.kept {w0 W : World} {g : Nat} {f0 : List Int} {f1 : Int} {W1 : World} {S : Nat → Prop} (h : IsS52 w0 W g f0 f1) (hk : Kept W W1 S) (hne : ¬ S g) : IsS52 w0 W1 g f0 f1 := by
  obtain ⟨A0, c0, hb, hg, hr0⟩ := h
  exact ⟨A0, c0, blk_kept hb hk hne, hg, hr0⟩
theorem IsS52.below {w0 W : World} {g : Nat} {f0 : List Int} {f1 : Int} {W1 : World} (h : IsS52 w0 W g f0 f1) (hw : Below W.heap.size W W1) : IsS52 w0 W1 g f0 f1 := h.grown (grown_of_below hw none) (by simp)
theorem IsS52.alloc {w0 W : World} {g : Nat} {f0 : List Int} {f1 : Int} (h : IsS52 w0 W g f0 f1) (o : Obj) : IsS52 w0 (W.alloc o) g f0 f1 := h.below (below_alloc (Below.refl _ _) o)
theorem IsS52.drewN {w0 W : World} {g : Nat} {f0 : List Int} {f1 : Int} (h : IsS52 w0 W g f0 f1) (m : Nat) : IsS52 w0 (W.drewN m) g f0 f1 := h
theorem IsS52.drew {w0 W : World} {g : Nat} {f0 : List Int} {f1 : Int} (h : IsS52 w0 W g f0 f1) : IsS52 w0 W.drew g f0 f1 := h
theorem IsS52.at_ {w0 W : World} {g : Nat} {f0 : List Int} {f1 : Int} {w' : World} {m : Nat} (hq : W.drewN m = w') (h : IsS52 w0 W g f0 f1) : IsS52 w0 w' g f0 f1 := by subst hq; exact IsS52.drewN h m
theorem IsS52.apart {w0 W : World} {g : Nat} {f0 : List Int} {f1 : Int} {α : Type} {d : Kd α} {e : Nat} {base : Nat} {ok : Nat → Prop} {v : Value} {xs : List α} (h : IsS52 w0 W g f0 f1) (ho : d.R e W base ok v xs) (ht : ∀ q, q ∈ e :: d.E → q ≠ 52) : d.R e W base (fun k => ok k ∧ k ≠ g) v xs := by
  obtain ⟨A0, c0, hb, hg, hr0⟩ := h
  exact Kd.R_types ho hb ht
theorem IsS52.own_ne {w0 W : World} {g : Nat} {f0 : List Int} {f1 : Int} {α : Type} {d : Kd α} {e : Nat} {base : Nat} {ok : Nat → Prop} {v : Value} {xs : List α} (h : IsS52 w0 W g f0 f1) (ho : d.R e W base ok v xs) (ht : e ≠ 52) : some g ≠ v.ownBlock := by
  obtain ⟨A0, c0, hb, hg, hr0⟩ := h
  exact Kd.R_ne ho hb ht
theorem IsS52.apartQ {w0 W : World} {g : Nat} {f0 : List Int} {f1 : Int} {α : Type} {d : Kd α} {e : Nat} {base : Nat} {ok : Nat → Prop} {v : Value} {xs : List α} (h : IsS52 w0 W g f0 f1) (ho : d.Q e W base ok v xs) (ht : ∀ q, q ∈ e :: d.E → q ≠ 52) : d.Q e W base (fun k => ok k ∧ k ≠ g) v xs := by
  obtain ⟨A0, c0, hb, hg, hr0⟩ := h
  exact Kd.Q_types ho hb ht
theorem IsS52.own_neQ {w0 W : World} {g : Nat} {f0 : List Int} {f1 : Int} {α : Type} {d : Kd α} {e : Nat} {base : Nat} {ok : Nat → Prop} {v : Value} {xs : List α} (h : IsS52 w0 W g f0 f1) (ho : d.Q e W base ok v xs) (ht : e ≠ 52) : some g ≠ v.ownBlock := by
  obtain ⟨A0, c0, hb, hg, hr0⟩ := h
  exact Kd.Q_ne ho hb ht
theorem IsS52.apartS {w0 W : World} {g : Nat} {f0 : List Int} {f1 : Int} {α : Type} {d : Kd α} {e : Nat} {base : Nat} {ok : Nat → Prop} {v : Value} {xs : List α} (h : IsS52 w0 W g f0 f1) (ho : d.S e W base ok v xs) (ht : ∀ q, q ∈ e :: d.E → q ≠ 52) : d.S e W base (fun k => ok k ∧ k ≠ g) v xs := by
  obtain ⟨A0, c0, hb, hg, hr0⟩ := h
  exact Kd.S_types ho hb ht
theorem IsS52.own_neS {w0 W : World} {g : Nat} {f0 : List Int} {f1 : Int} {α : Type} {d : Kd α} {e : Nat} {base : Nat} {ok : Nat → Prop} {v : Value} {xs : List α} (h : IsS52 w0 W g f0 f1) (ho : d.S e W base ok v xs) (ht : e ≠ 52) : some g ≠ v.ownBlock := by
  obtain ⟨A0, c0, hb, hg, hr0⟩ := h
  exact Kd.S_ne ho hb ht
theorem IsS52.lt {w0 W : World} {g : Nat} {f0 : List Int} {f1 : Int} (h : IsS52 w0 W g f0 f1) : g < W.heap.size := by
  obtain ⟨A0, c0, hb, hg, hr0⟩ := h
  exact blk_lt hb
theorem IsS52.ge {w0 W : World} {g : Nat} {f0 : List Int} {f1 : Int} (h : IsS52 w0 W g f0 f1) : w0.heap.size ≤ g := by
  obtain ⟨A0, c0, hb, hg, hr0⟩ := h
  exact hg
theorem IsS52.ne_blk {w0 W : World} {g : Nat} {f0 : List Int} {f1 : Int} {a : Nat} {cs : Array Value} {t : TypeId} {fr : Nat × Nat} (h : IsS52 w0 W g f0 f1) (hb2 : W.heap[a]? = some (.cells cs t fr)) (ht : t ≠ 52) : g ≠ a := by
  obtain ⟨A0, c0, hb, hg, hr0⟩ := h
  rintro rfl
  rw [hb] at hb2
  injection hb2 with hb2
  injection hb2 with _ ht2
  exact ht ht2.symm
theorem IsS52.far {w0 W : World} {g : Nat} {f0 : List Int} {f1 : Int} {p : Addr} (h : IsS52 w0 W g f0 f1) (hne : g ≠ p.block) (u : Value) : IsS52 w0 (W.setCell p u) g f0 f1 := by
  obtain ⟨A0, c0, hb, hg, hr0⟩ := h
  exact ⟨A0, c0, blk_far hb hne u, hg, hr0⟩
theorem cellS52_0 {W : World} {g : Nat} {A0 : Option Addr} {c0 : Nat} {f0 : List Int} {f1 : Int} (h : W.heap[g]? = some (.cells #[.slice A0 f0.length c0, .int .i64 f1] 52 (0, 0))) : W.cell? ⟨g, 0, none⟩ = some (.slice A0 f0.length c0) := (blk_cell h 0).trans rfl
theorem cellS52_1 {W : World} {g : Nat} {A0 : Option Addr} {c0 : Nat} {f0 : List Int} {f1 : Int} (h : W.heap[g]? = some (.cells #[.slice A0 f0.length c0, .int .i64 f1] 52 (0, 0))) : W.cell? ⟨g, 1, none⟩ = some (.int .i64 f1) := (blk_cell h 1).trans rfl
theorem IsS52.set_1 {w0 W : World} {g : Nat} {f0 : List Int} {f1 : Int} (h : IsS52 w0 W g f0 f1) (x : Int) : IsS52 w0 (W.setCell ⟨g, 1, none⟩ (.int .i64 x)) g f0 x := by
  obtain ⟨A0, c0, hb, hg, hr0⟩ := h
  exact ⟨A0, c0, by simpa using blk_set hb 1 (.int .i64 x), hg, hr0⟩
theorem IsS52.new (w0 W : World) (A0 : Option Addr) (c0 : Nat) (f0 : List Int) (f1 : Int) (hB : Below w0.heap.size w0 W) (hr0 : Kd.C (Kd.int .u8) w0 A0 f0.length f0) : IsS52 w0 (W.alloc (.cells #[.slice A0 f0.length c0, .int .i64 f1] 52)) W.heap.size f0 f1 := ⟨A0, c0, by simpa using heap_alloc_new W _, hB.size, hr0⟩

/-! ### lightstrconv_decimal_nearUp: function 31 -/
def lightstrconv_decimal_nearUp.j0 : Nat → Int → Bool → List Int → Int → Option (Bool × Int)
  | 0, _, _, _, _ => none
  | k + 1, x1, x15, x1000, x1001 => if x15 = true then (some (false, x1001)) else (if 0 ≤ x1 then (if x1 < (x1000.length : Int) then (if (rd x1000 x1) = 5 then (if (wrap64 (x1 + 1)) = (x1000.length : Int) then (if x1 > 0 then (if 0 ≤ (wrap64 (x1 - 1)) then (if (wrap64 (x1 - 1)) < (x1000.length : Int) then (some (((Int.tmod (rd x1000 (wrap64 (x1 - 1))) 2) != 0), x1001)) else (none)) else (none)) else (some (false, x1001))) else (some (decide ((rd x1000 x1) ≥ 5), x1001))) else (some (decide ((rd x1000 x1) ≥ 5), x1001))) else (none)) else (none))
def lightstrconv_decimal_nearUp.f (k : Nat) (s0_0 : List Int) (s0_1 : Int) (a1 : Int) : Option (Bool × Int) := if a1 < 0 then (lightstrconv_decimal_nearUp.j0 k a1 true s0_0 s0_1) else (lightstrconv_decimal_nearUp.j0 k a1 (decide (a1 ≥ (s0_0.length : Int))) s0_0 s0_1)
theorem lightstrconv_decimal_nearUp.mono_l : ∀ k, (∀ y0 y1 y2 y3, LeO (lightstrconv_decimal_nearUp.j0 k y0 y1 y2 y3) (lightstrconv_decimal_nearUp.j0 (k + 1) y0 y1 y2 y3))
  | 0 => fun _ _ _ _ r h => by simp [lightstrconv_decimal_nearUp.j0] at h
  | k + 1 => by
    have ih0 := lightstrconv_decimal_nearUp.mono_l k
    · intro y0 y1 y2 y3
      unfold lightstrconv_decimal_nearUp.j0
      repeat' first
      | (with_reducible exact ih0 _ _ _ _)
      | (with_reducible exact LeO.refl _)
      | (with_reducible exact LeO.none _)
      | (with_reducible refine LeO.ite ?_ ?_)
      | (with_reducible refine LeO.bind ?_ (fun _ => ?_))
      | exact ih0 _ _ _ _
      | exact LeO.none _
      | refine LeO.ite ?_ ?_
      | refine LeO.bind ?_ (fun _ => ?_)
theorem lightstrconv_decimal_nearUp.mono : ∀ a0 a1 a2 k, LeO (lightstrconv_decimal_nearUp.f k a0 a1 a2) (lightstrconv_decimal_nearUp.f (k + 1) a0 a1 a2) := by
  intro a0 a1 a2 k
  have ih0 := lightstrconv_decimal_nearUp.mono_l k
  unfold lightstrconv_decimal_nearUp.f
  repeat' first
      | (with_reducible exact ih0 _ _ _ _)
      | (with_reducible exact LeO.refl _)
      | (with_reducible exact LeO.none _)
      | (with_reducible refine LeO.ite ?_ ?_)
      | (with_reducible refine LeO.bind ?_ (fun _ => ?_))
      | exact ih0 _ _ _ _
      | exact LeO.none _
      | refine LeO.ite ?_ ?_
      | refine LeO.bind ?_ (fun _ => ?_)
set_option maxHeartbeats 8000000 in
set_option maxRecDepth 100000 in
theorem lightstrconv_decimal_nearUp.calls (k : Nat) (g : Nat) (s0_0 : List Int) (s0_1 : Int) (a1 : Int) (r1 : Bool) (r2 : Int) (w0 w : World) (hI : IsS52 w0 w g s0_0 s0_1) (hB : Below w0.heap.size w0 w) (h : lightstrconv_decimal_nearUp.f k s0_0 s0_1 a1 = some (r1, r2)) :
    Calls Try.prog 31 #[.pointer (some ⟨g, 0, none⟩), .int .i64 a1] w fun e w' => e = .returned (.bool r1) ∧ IsS52 w0 w' g s0_0 r2 ∧ Below w0.heap.size w0 w' ∧ KeepBut w w' g none := by
  have HI0 := Aside0.mk hI
  have HK := Aside0.mk (KeepBut.refl w g none)
  have HL := Aside0.mk hB.size
  clear hI
  have HW0 := Aside0.mk hB.size
  have HB := Aside0.mk hB
  clear hB
  have H : (if a1 < 0 then (lightstrconv_decimal_nearUp.j0 k a1 true s0_0 s0_1) else (lightstrconv_decimal_nearUp.j0 k a1 (decide (a1 ≥ (s0_0.length : Int))) s0_0 s0_1)) = some (r1, r2) := h
  clear h
  have HC3 := Aside0.mk H
  clear H
  go_enter Try.func31, Try.ntmps31
  go_upto_region 1 with (fail)
  go_cut [15] (fun v15 wc => ∃ (kq : Nat) (x15_2 : Bool), v15 = .bool x15_2 ∧ Aside0 (lightstrconv_decimal_nearUp.j0 kq a1 x15_2 s0_0 s0_1 = some (r1, r2)) ∧ Aside0 (kq ≤ k) ∧ Aside0 (IsS52 w0 wc g s0_0 s0_1) ∧ Aside0 (KeepBut w wc g none) ∧ Aside0 (Below w0.heap.size w0 wc))
  case first =>
    have H := HC3.out
    clear HC3
    by_cases c4 : a1 < 0
    · rw [if_pos c4] at H
      have c4b0 : decide (a1 < 0) = true := decide_eq_true c4
      clear c4
      (first | rw [c4b0] | (simp only [i64_w, i32_w]; rw [c4b0]) | skip)
      have H' := Aside0.mk H
      clear H
      go_wp2
      go_meet
      case rel => exact ⟨_, (true), (by first | rfl | (simp; done) | (simp [*]; done)), H', ⟨by first | omega | exact Nat.le_refl _⟩, ⟨by repeat (first | (with_reducible first | exact HI0.out | apply IsS52.alloc | apply IsS52.drewN | apply IsS52.drew | apply IsS52.set_1) | exact HI0.out)⟩, ⟨by repeat (first | (with_reducible first | exact HK.out | apply KeepBut.set_ | apply keep_drewN | apply keep_drew | apply keep_alloc) | exact HK.out)⟩, ⟨by repeat (first | (with_reducible first | exact HB.out | apply below_alloc | apply pw_below_drewN | apply below_drew1 | refine below_set ?_ (IsS52.ge HI0.out)) | exact HB.out)⟩⟩
    · rw [if_neg c4] at H
      have c4b0 : decide (a1 < 0) = false := decide_eq_false c4
      clear c4
      (first | rw [c4b0] | (simp only [i64_w, i32_w]; rw [c4b0]) | skip)
      have H' := Aside0.mk H
      clear H
      obtain ⟨ASz5_0, cSz5_0, HGz5, hgz5, HSz5_0⟩ := HI0.out
      have hcz5_0 := cellS52_0 HGz5
      have hcz5_1 := cellS52_1 HGz5
      have hfz5_1 := blk_frozen HGz5 1
      clear HGz5 hgz5
      go_wp2
      go_meet
      case rel => exact ⟨_, (decide (a1 ≥ (s0_0.length : Int))), (by first | rfl | (simp; done) | (simp [*]; done)), H', ⟨by first | omega | exact Nat.le_refl _⟩, ⟨by repeat (first | (with_reducible first | exact HI0.out | apply IsS52.alloc | apply IsS52.drewN | apply IsS52.drew | apply IsS52.set_1) | exact HI0.out)⟩, ⟨by repeat (first | (with_reducible first | exact HK.out | apply KeepBut.set_ | apply keep_drewN | apply keep_drew | apply keep_alloc) | exact HK.out)⟩, ⟨by repeat (first | (with_reducible first | exact HB.out | apply below_alloc | apply pw_below_drewN | apply below_drew1 | refine below_set ?_ (IsS52.ge HI0.out)) | exact HB.out)⟩⟩
  case rest =>
    clear HC3
    try clear p2
    try clear c3
    try clear c4
    try clear c4b0
    try clear hcz5_0
    try clear hcz5_1
    try clear hfz5_1
    obtain ⟨kq, x15_2, rfl, HA, HJ2, HI0, HK, HB⟩ := hcut
    cases kq with
    | zero => exact absurd HA.out (by simp [lightstrconv_decimal_nearUp.j0])
    | succ kj2 =>
      have H := HA.out
      clear HA
      simp only [lightstrconv_decimal_nearUp.j0] at H
      by_cases c6 : x15_2 = true
      · subst c6
        have H1 : (some (false, s0_1)) = some (r1, r2) := by rw [if_pos rfl] at H; exact H
        clear H
        have H := H1
        clear H1
        simp only [Option.some.injEq, Prod.mk.injEq] at H
        obtain ⟨rfl, rfl⟩ := H
        go_wp2
        go_ret
        exact ⟨by first | rfl | (simp [errW_none, errW_some] <;> rfl) | (simp [*, errW_none, errW_some] <;> rfl), by repeat (first | (with_reducible first | exact HI0.out | apply IsS52.alloc | apply IsS52.drewN | apply IsS52.drew | apply IsS52.set_1) | exact HI0.out), by repeat (first | (with_reducible first | exact HB.out | apply below_alloc | apply pw_below_drewN | apply below_drew1 | refine below_set ?_ (IsS52.ge HI0.out)) | exact HB.out), by repeat (first | (with_reducible first | exact HK.out | apply KeepBut.set_ | apply keep_drewN | apply keep_drew | apply keep_alloc) | exact HK.out)⟩
      · replace c6 := Bool.eq_false_iff.mpr c6
        subst c6
        have H1 : (if 0 ≤ a1 then (if a1 < (s0_0.length : Int) then (if (rd s0_0 a1) = 5 then (if (wrap64 (a1 + 1)) = (s0_0.length : Int) then (if a1 > 0 then (if 0 ≤ (wrap64 (a1 - 1)) then (if (wrap64 (a1 - 1)) < (s0_0.length : Int) then (some (((Int.tmod (rd s0_0 (wrap64 (a1 - 1))) 2) != 0), s0_1)) else (none)) else (none)) else (some (false, s0_1))) else (some (decide ((rd s0_0 a1) ≥ 5), s0_1))) else (some (decide ((rd s0_0 a1) ≥ 5), s0_1))) else (none)) else (none)) = some (r1, r2) := by rw [if_neg (show ¬ (false = true) by decide)] at H; exact H
        clear H
        have H := H1
        clear H1
        by_cases c7 : 0 ≤ a1
        · rw [if_pos c7] at H
          have c7b0 : decide (0 ≤ a1) = true := decide_eq_true c7
          clear c7
          by_cases c8 : a1 < (s0_0.length : Int)
          · rw [if_pos c8] at H
            have c8b0 : decide (a1 < (s0_0.length : Int)) = true := decide_eq_true c8
            clear c8
            by_cases c9 : (rd s0_0 a1) = 5
            · rw [if_pos c9] at H
              have c9b0 : ((rd s0_0 a1) == 5) = true := beq_iff_eq.mpr c9
              have c9b1 : ((rd s0_0 a1) != 5) = false := bne_eq_false_iff_eq.mpr c9
              clear c9
              by_cases c10 : (wrap64 (a1 + 1)) = (s0_0.length : Int)
              · rw [if_pos c10] at H
                have c10b0 : ((wrap64 (a1 + 1)) == (s0_0.length : Int)) = true := beq_iff_eq.mpr c10
                have c10b1 : ((wrap64 (a1 + 1)) != (s0_0.length : Int)) = false := bne_eq_false_iff_eq.mpr c10
                clear c10
                by_cases c11 : a1 > 0
                · rw [if_pos c11] at H
                  have c11b0 : decide (0 < a1) = true := decide_eq_true c11
                  clear c11
                  obtain ⟨ji12, hji12⟩ : ∃ j_ : Int, (wrap64 (a1 - 1)) = j_ := ⟨_, rfl⟩
                  replace H : (if 0 ≤ (ji12) then (if (ji12) < (s0_0.length : Int) then (some (((Int.tmod (rd s0_0 (ji12)) 2) != 0), s0_1)) else (none)) else (none)) = some (r1, r2) := by first | (rw [hji12] at H; exact H) | (simp only [hji12] at H ⊢; exact H)
                  have hji12w : (IntKind.i64.wrap (a1 - 1)) = ji12 := (i64_w _).trans hji12
                  by_cases c13 : 0 ≤ (ji12)
                  · rw [if_pos c13] at H
                    have c13b0 : decide (0 ≤ (ji12)) = true := decide_eq_true c13
                    clear c13
                    by_cases c14 : (ji12) < (s0_0.length : Int)
                    · rw [if_pos c14] at H
                      have c14b0 : decide ((ji12) < (s0_0.length : Int)) = true := decide_eq_true c14
                      clear c14
                      simp only [Option.some.injEq, Prod.mk.injEq] at H
                      obtain ⟨rfl, rfl⟩ := H
                      obtain ⟨ASz15_0, cSz15_0, HGz15, hgz15, HSz15_0⟩ := HI0.out
                      have hcz15_0 := cellS52_0 HGz15
                      have hcz15_1 := cellS52_1 HGz15
                      have hfz15_1 := blk_frozen HGz15 1
                      clear HGz15 hgz15
                      have p101 : 0 ≤ (a1 : Int) := of_decide_eq_true (by first | (with_reducible assumption) | assumption)
                      have q101 : a1 < (s0_0.length : Int) := of_decide_eq_true (by first | (with_reducible assumption) | assumption)
                      obtain ⟨ad101, e101, hx101_0⟩ := Kd.at_int HSz15_0 a1 p101 q101
                      cases e101
                      replace hx101_0 := pw_cell_below HB.out hx101_0
                      replace p101 := eq_true p101
                      replace q101 := eq_true q101
                      have p102 : 0 ≤ ((ji12) : Int) := of_decide_eq_true (by first | (with_reducible assumption) | assumption)
                      have q102 : (ji12) < (s0_0.length : Int) := of_decide_eq_true (by first | (with_reducible assumption) | assumption)
                      obtain ⟨ad102, e102, hx102_0⟩ := Kd.at_int HSz15_0 (ji12) p102 q102
                      obtain rfl : ad101 = ad102 := (by injection e102)
                      replace hx102_0 := pw_cell_below HB.out hx102_0
                      replace p102 := eq_true p102
                      replace q102 := eq_true q102
                      go_wp2
                      go_ret
                      exact ⟨by first | rfl | (simp [errW_none, errW_some] <;> rfl) | (simp only [← hji12]; first | rfl | (simp [errW_none, errW_some] <;> rfl)) | (simp [*, errW_none, errW_some] <;> rfl), by repeat (first | (with_reducible first | exact HI0.out | apply IsS52.alloc | apply IsS52.drewN | apply IsS52.drew | apply IsS52.set_1) | exact HI0.out), by repeat (first | (with_reducible first | exact HB.out | apply below_alloc | apply pw_below_drewN | apply below_drew1 | refine below_set ?_ (IsS52.ge HI0.out)) | exact HB.out), by repeat (first | (with_reducible first | exact HK.out | apply KeepBut.set_ | apply keep_drewN | apply keep_drew | apply keep_alloc) | exact HK.out)⟩
                    · rw [if_neg c14] at H
                      exact absurd H (by simp)
                  · rw [if_neg c13] at H
                    exact absurd H (by simp)
                · rw [if_neg c11] at H
                  have c11b0 : decide (0 < a1) = false := decide_eq_false c11
                  clear c11
                  simp only [Option.some.injEq, Prod.mk.injEq] at H
                  obtain ⟨rfl, rfl⟩ := H
                  obtain ⟨ASz16_0, cSz16_0, HGz16, hgz16, HSz16_0⟩ := HI0.out
                  have hcz16_0 := cellS52_0 HGz16
                  have hcz16_1 := cellS52_1 HGz16
                  have hfz16_1 := blk_frozen HGz16 1
                  clear HGz16 hgz16
                  have p101 : 0 ≤ (a1 : Int) := of_decide_eq_true (by first | (with_reducible assumption) | assumption)
                  have q101 : a1 < (s0_0.length : Int) := of_decide_eq_true (by first | (with_reducible assumption) | assumption)
                  obtain ⟨ad101, e101, hx101_0⟩ := Kd.at_int HSz16_0 a1 p101 q101
                  cases e101
                  replace hx101_0 := pw_cell_below HB.out hx101_0
                  replace p101 := eq_true p101
                  replace q101 := eq_true q101
                  go_wp2
                  go_ret
                  exact ⟨by first | rfl | (simp [errW_none, errW_some] <;> rfl) | (simp [*, errW_none, errW_some] <;> rfl), by repeat (first | (with_reducible first | exact HI0.out | apply IsS52.alloc | apply IsS52.drewN | apply IsS52.drew | apply IsS52.set_1) | exact HI0.out), by repeat (first | (with_reducible first | exact HB.out | apply below_alloc | apply pw_below_drewN | apply below_drew1 | refine below_set ?_ (IsS52.ge HI0.out)) | exact HB.out), by repeat (first | (with_reducible first | exact HK.out | apply KeepBut.set_ | apply keep_drewN | apply keep_drew | apply keep_alloc) | exact HK.out)⟩
              · rw [if_neg c10] at H
                have c10b0 : ((wrap64 (a1 + 1)) == (s0_0.length : Int)) = false := beq_eq_false_iff_ne.mpr c10
                have c10b1 : ((wrap64 (a1 + 1)) != (s0_0.length : Int)) = true := bne_iff_ne.mpr c10
                simp only [Option.some.injEq, Prod.mk.injEq] at H
                obtain ⟨rfl, rfl⟩ := H
                obtain ⟨ASz17_0, cSz17_0, HGz17, hgz17, HSz17_0⟩ := HI0.out
                have hcz17_0 := cellS52_0 HGz17
                have hcz17_1 := cellS52_1 HGz17
                have hfz17_1 := blk_frozen HGz17 1
                clear HGz17 hgz17
                have p101 : 0 ≤ (a1 : Int) := of_decide_eq_true (by first | (with_reducible assumption) | assumption)
                have q101 : a1 < (s0_0.length : Int) := of_decide_eq_true (by first | (with_reducible assumption) | assumption)
                obtain ⟨ad101, e101, hx101_0⟩ := Kd.at_int HSz17_0 a1 p101 q101
                cases e101
                replace hx101_0 := pw_cell_below HB.out hx101_0
                replace p101 := eq_true p101
                replace q101 := eq_true q101
                have p103 : 0 ≤ (a1 : Int) := of_decide_eq_true (by first | (with_reducible assumption) | assumption)
                have q103 : a1 < (s0_0.length : Int) := of_decide_eq_true (by first | (with_reducible assumption) | assumption)
                obtain ⟨ad103, e103, hx103_0⟩ := Kd.at_int HSz17_0 a1 p103 q103
                obtain rfl : ad101 = ad103 := (by injection e103)
                replace hx103_0 := pw_cell_below HB.out hx103_0
                replace p103 := eq_true p103
                replace q103 := eq_true q103
                go_wp2
                go_ret
                exact ⟨by first | rfl | (simp [errW_none, errW_some] <;> rfl) | (simp [*, errW_none, errW_some] <;> rfl), by repeat (first | (with_reducible first | exact HI0.out | apply IsS52.alloc | apply IsS52.drewN | apply IsS52.drew | apply IsS52.set_1) | exact HI0.out), by repeat (first | (with_reducible first | exact HB.out | apply below_alloc | apply pw_below_drewN | apply below_drew1 | refine below_set ?_ (IsS52.ge HI0.out)) | exact HB.out), by repeat (first | (with_reducible first | exact HK.out | apply KeepBut.set_ | apply keep_drewN | apply keep_drew | apply keep_alloc) | exact HK.out)⟩
            · rw [if_neg c9] at H
              have c9b0 : ((rd s0_0 a1) == 5) = false := beq_eq_false_iff_ne.mpr c9
              have c9b1 : ((rd s0_0 a1) != 5) = true := bne_iff_ne.mpr c9
              simp only [Option.some.injEq, Prod.mk.injEq] at H
              obtain ⟨rfl, rfl⟩ := H
              obtain ⟨ASz18_0, cSz18_0, HGz18, hgz18, HSz18_0⟩ := HI0.out
              have hcz18_0 := cellS52_0 HGz18
              have hcz18_1 := cellS52_1 HGz18
              have hfz18_1 := blk_frozen HGz18 1
              clear HGz18 hgz18
              have p101 : 0 ≤ (a1 : Int) := of_decide_eq_true (by first | (with_reducible assumption) | assumption)
              have q101 : a1 < (s0_0.length : Int) := of_decide_eq_true (by first | (with_reducible assumption) | assumption)
              obtain ⟨ad101, e101, hx101_0⟩ := Kd.at_int HSz18_0 a1 p101 q101
              cases e101
              replace hx101_0 := pw_cell_below HB.out hx101_0
              replace p101 := eq_true p101
              replace q101 := eq_true q101
              have p104 : 0 ≤ (a1 : Int) := of_decide_eq_true (by first | (with_reducible assumption) | assumption)
              have q104 : a1 < (s0_0.length : Int) := of_decide_eq_true (by first | (with_reducible assumption) | assumption)
              obtain ⟨ad104, e104, hx104_0⟩ := Kd.at_int HSz18_0 a1 p104 q104
              obtain rfl : ad101 = ad104 := (by injection e104)
              replace hx104_0 := pw_cell_below HB.out hx104_0
              replace p104 := eq_true p104
              replace q104 := eq_true q104
              go_wp2
              go_ret
              exact ⟨by first | rfl | (simp [errW_none, errW_some] <;> rfl) | (simp [*, errW_none, errW_some] <;> rfl), by repeat (first | (with_reducible first | exact HI0.out | apply IsS52.alloc | apply IsS52.drewN | apply IsS52.drew | apply IsS52.set_1) | exact HI0.out), by repeat (first | (with_reducible first | exact HB.out | apply below_alloc | apply pw_below_drewN | apply below_drew1 | refine below_set ?_ (IsS52.ge HI0.out)) | exact HB.out), by repeat (first | (with_reducible first | exact HK.out | apply KeepBut.set_ | apply keep_drewN | apply keep_drew | apply keep_alloc) | exact HK.out)⟩
          · rw [if_neg c8] at H
            exact absurd H (by simp)
        · rw [if_neg c7] at H
          exact absurd H (by simp)

/-! ### lightstrconv_decimal_digit: function 32 -/
def lightstrconv_decimal_digit.f (s0_0 : List Int) (s0_1 : Int) (a1 : Int) : Option (Int × Int) := if a1 ≥ 0 then (if a1 < (s0_0.length : Int) then (if 0 ≤ a1 then (some (rd s0_0 a1, s0_1)) else (none)) else (some (0, s0_1))) else (some (0, s0_1))
set_option maxHeartbeats 8000000 in
set_option maxRecDepth 100000 in
theorem lightstrconv_decimal_digit.calls (g : Nat) (s0_0 : List Int) (s0_1 : Int) (a1 : Int) (r1 : Int) (r2 : Int) (w0 w : World) (hI : IsS52 w0 w g s0_0 s0_1) (hB : Below w0.heap.size w0 w) (h : lightstrconv_decimal_digit.f s0_0 s0_1 a1 = some (r1, r2)) :
    Calls Try.prog 32 #[.pointer (some ⟨g, 0, none⟩), .int .i64 a1] w fun e w' => e = .returned (.int .u8 r1) ∧ IsS52 w0 w' g s0_0 r2 ∧ Below w0.heap.size w0 w' ∧ KeepBut w w' g none := by
  have HI0 := Aside0.mk hI
  have HK := Aside0.mk (KeepBut.refl w g none)
  have HL := Aside0.mk hB.size
  clear hI
  have HW0 := Aside0.mk hB.size
  have HB := Aside0.mk hB
  clear hB
  have H : (if a1 ≥ 0 then (if a1 < (s0_0.length : Int) then (if 0 ≤ a1 then (some (rd s0_0 a1, s0_1)) else (none)) else (some (0, s0_1))) else (some (0, s0_1))) = some (r1, r2) := h
  clear h
  by_cases c3 : a1 ≥ 0
  · rw [if_pos c3] at H
    have c3b0 : decide (0 ≤ a1) = true := decide_eq_true c3
    clear c3
    by_cases c4 : a1 < (s0_0.length : Int)
    · rw [if_pos c4] at H
      have c4b0 : decide (a1 < (s0_0.length : Int)) = true := decide_eq_true c4
      clear c4
      by_cases c5 : 0 ≤ a1
      · rw [if_pos c5] at H
        have c5b0 : decide (0 ≤ a1) = true := decide_eq_true c5
        clear c5
        simp only [Option.some.injEq, Prod.mk.injEq] at H
        obtain ⟨rfl, rfl⟩ := H
        obtain ⟨ASz6_0, cSz6_0, HGz6, hgz6, HSz6_0⟩ := HI0.out
        have hcz6_0 := cellS52_0 HGz6
        have hcz6_1 := cellS52_1 HGz6
        have hfz6_1 := blk_frozen HGz6 1
        clear HGz6 hgz6
        have p105 : 0 ≤ (a1 : Int) := of_decide_eq_true (by first | (with_reducible assumption) | assumption)
        have q105 : a1 < (s0_0.length : Int) := of_decide_eq_true (by first | (with_reducible assumption) | assumption)
        obtain ⟨ad105, e105, hx105_0⟩ := Kd.at_int HSz6_0 a1 p105 q105
        cases e105
        replace hx105_0 := pw_cell_below HB.out hx105_0
        replace p105 := eq_true p105
        replace q105 := eq_true q105
        go_enter Try.func32, Try.ntmps32
        go_wp2
        go_ret
        exact ⟨by first | rfl | (simp [errW_none, errW_some] <;> rfl) | (simp [*, errW_none, errW_some] <;> rfl), by repeat (first | (with_reducible first | exact HI0.out | apply IsS52.alloc | apply IsS52.drewN | apply IsS52.drew | apply IsS52.set_1) | exact HI0.out), by repeat (first | (with_reducible first | exact HB.out | apply below_alloc | apply pw_below_drewN | apply below_drew1 | refine below_set ?_ (IsS52.ge HI0.out)) | exact HB.out), by repeat (first | (with_reducible first | exact HK.out | apply KeepBut.set_ | apply keep_drewN | apply keep_drew | apply keep_alloc) | exact HK.out)⟩
      · rw [if_neg c5] at H
        exact absurd H (by simp)
    · rw [if_neg c4] at H
      have c4b0 : decide (a1 < (s0_0.length : Int)) = false := decide_eq_false c4
      clear c4
      simp only [Option.some.injEq, Prod.mk.injEq] at H
      obtain ⟨rfl, rfl⟩ := H
      obtain ⟨ASz7_0, cSz7_0, HGz7, hgz7, HSz7_0⟩ := HI0.out
      have hcz7_0 := cellS52_0 HGz7
      have hcz7_1 := cellS52_1 HGz7
      have hfz7_1 := blk_frozen HGz7 1
      clear HGz7 hgz7
      go_enter Try.func32, Try.ntmps32
      go_wp2
      go_ret
      exact ⟨by first | rfl | (simp [errW_none, errW_some] <;> rfl) | (simp [*, errW_none, errW_some] <;> rfl), by repeat (first | (with_reducible first | exact HI0.out | apply IsS52.alloc | apply IsS52.drewN | apply IsS52.drew | apply IsS52.set_1) | exact HI0.out), by repeat (first | (with_reducible first | exact HB.out | apply below_alloc | apply pw_below_drewN | apply below_drew1 | refine below_set ?_ (IsS52.ge HI0.out)) | exact HB.out), by repeat (first | (with_reducible first | exact HK.out | apply KeepBut.set_ | apply keep_drewN | apply keep_drew | apply keep_alloc) | exact HK.out)⟩
  · rw [if_neg c3] at H
    have c3b0 : decide (0 ≤ a1) = false := decide_eq_false c3
    clear c3
    simp only [Option.some.injEq, Prod.mk.injEq] at H
    obtain ⟨rfl, rfl⟩ := H
    go_enter Try.func32, Try.ntmps32
    go_wp2
    go_ret
    exact ⟨by first | rfl | (simp [errW_none, errW_some] <;> rfl) | (simp [*, errW_none, errW_some] <;> rfl), by repeat (first | (with_reducible first | exact HI0.out | apply IsS52.alloc | apply IsS52.drewN | apply IsS52.drew | apply IsS52.set_1) | exact HI0.out), by repeat (first | (with_reducible first | exact HB.out | apply below_alloc | apply pw_below_drewN | apply below_drew1 | refine below_set ?_ (IsS52.ge HI0.out)) | exact HB.out), by repeat (first | (with_reducible first | exact HK.out | apply KeepBut.set_ | apply keep_drewN | apply keep_drew | apply keep_alloc) | exact HK.out)⟩

/-! ### lightstrconv_decimal_text: function 24 -/
mutual
def lightstrconv_decimal_text.l0 : Nat → Int → List Int → Int → List Int → Int → Option (ByteArray × Int)
  | 0, _, _, _, _, _ => none
  | k + 1, x1, x5, x6, x1000, x1001 => if x6 < x1001 then ((lightstrconv_decimal_digit.f x1000 x1001 x6).bind fun bt106 => (if x5.length < 140737488355328 then (lightstrconv_decimal_text.l0 k x1 (x5 ++ [(48 + bt106.1) % 256]) (wrap64 (x6 + 1)) x1000 bt106.2) else (none))) else (if (x5.length : Int) = 0 then (if x5.length < 140737488355328 then (lightstrconv_decimal_text.j1 k x1 (x5 ++ [48]) x1000 x1001) else (none)) else (lightstrconv_decimal_text.j1 k x1 x5 x1000 x1001))
def lightstrconv_decimal_text.j1 : Nat → Int → List Int → List Int → Int → Option (ByteArray × Int)
  | 0, _, _, _, _ => none
  | k + 1, x1, x5, x1000, x1001 => if x1 > 0 then (if x5.length < 140737488355328 then (lightstrconv_decimal_text.l1 k x1 (x5 ++ [46]) 0 x1000 x1001) else (none)) else (some (strOfNums x5, x1001))
def lightstrconv_decimal_text.l1 : Nat → Int → List Int → Int → List Int → Int → Option (ByteArray × Int)
  | 0, _, _, _, _, _ => none
  | k + 1, x1, x5, x7, x1000, x1001 => if x7 < x1 then ((lightstrconv_decimal_digit.f x1000 x1001 (wrap64 (x1001 + x7))).bind fun bt117 => (if x5.length < 140737488355328 then (lightstrconv_decimal_text.l1 k x1 (x5 ++ [(48 + bt117.1) % 256]) (wrap64 (x7 + 1)) x1000 bt117.2) else (none))) else (some (strOfNums x5, x1001))
end
def lightstrconv_decimal_text.f (k : Nat) (s0_0 : List Int) (s0_1 : Int) (a1 : Int) : Option (ByteArray × Int) := lightstrconv_decimal_text.l0 k a1 ([] : List Int) 0 s0_0 s0_1
theorem lightstrconv_decimal_text.mono_l : ∀ k, (∀ y0 y1 y2 y3 y4, LeO (lightstrconv_decimal_text.l0 k y0 y1 y2 y3 y4) (lightstrconv_decimal_text.l0 (k + 1) y0 y1 y2 y3 y4)) ∧ (∀ y0 y1 y2 y3, LeO (lightstrconv_decimal_text.j1 k y0 y1 y2 y3) (lightstrconv_decimal_text.j1 (k + 1) y0 y1 y2 y3)) ∧ (∀ y0 y1 y2 y3 y4, LeO (lightstrconv_decimal_text.l1 k y0 y1 y2 y3 y4) (lightstrconv_decimal_text.l1 (k + 1) y0 y1 y2 y3 y4))
  | 0 => ⟨fun _ _ _ _ _ r h => by simp [lightstrconv_decimal_text.l0] at h, fun _ _ _ _ r h => by simp [lightstrconv_decimal_text.j1] at h, fun _ _ _ _ _ r h => by simp [lightstrconv_decimal_text.l1] at h⟩
  | k + 1 => by
    obtain ⟨ih0, ih1, ih2⟩ := lightstrconv_decimal_text.mono_l k
    refine ⟨?_, ?_, ?_⟩
    · intro y0 y1 y2 y3 y4
      unfold lightstrconv_decimal_text.l0
      repeat' first
      | (with_reducible exact ih0 _ _ _ _ _)
      | (with_reducible exact ih1 _ _ _ _)
      | (with_reducible exact ih2 _ _ _ _ _)
      | (with_reducible exact LeO.refl _)
      | (with_reducible exact LeO.none _)
      | (with_reducible refine LeO.ite ?_ ?_)
      | (with_reducible refine LeO.bind ?_ (fun _ => ?_))
      | exact ih0 _ _ _ _ _
      | exact ih1 _ _ _ _
      | exact ih2 _ _ _ _ _
      | exact LeO.none _
      | refine LeO.ite ?_ ?_
      | refine LeO.bind ?_ (fun _ => ?_)
    · intro y0 y1 y2 y3
      unfold lightstrconv_decimal_text.j1
      repeat' first
      | (with_reducible exact ih0 _ _ _ _ _)
      | (with_reducible exact ih1 _ _ _ _)
      | (with_reducible exact ih2 _ _ _ _ _)
      | (with_reducible exact LeO.refl _)
      | (with_reducible exact LeO.none _)
      | (with_reducible refine LeO.ite ?_ ?_)
      | (with_reducible refine LeO.bind ?_ (fun _ => ?_))
      | exact ih0 _ _ _ _ _
      | exact ih1 _ _ _ _
      | exact ih2 _ _ _ _ _
      | exact LeO.none _
      | refine LeO.ite ?_ ?_
      | refine LeO.bind ?_ (fun _ => ?_)
    · intro y0 y1 y2 y3 y4
      unfold lightstrconv_decimal_text.l1
      repeat' first
      | (with_reducible exact ih0 _ _ _ _ _)
      | (with_reducible exact ih1 _ _ _ _)
      | (with_reducible exact ih2 _ _ _ _ _)
      | (with_reducible exact LeO.refl _)
      | (with_reducible exact LeO.none _)
      | (with_reducible refine LeO.ite ?_ ?_)
      | (with_reducible refine LeO.bind ?_ (fun _ => ?_))
      | exact ih0 _ _ _ _ _
      | exact ih1 _ _ _ _
      | exact ih2 _ _ _ _ _
      | exact LeO.none _
      | refine LeO.ite ?_ ?_
      | refine LeO.bind ?_ (fun _ => ?_)
theorem lightstrconv_decimal_text.mono : ∀ a0 a1 a2 k, LeO (lightstrconv_decimal_text.f k a0 a1 a2) (lightstrconv_decimal_text.f (k + 1) a0 a1 a2) := by
  intro a0 a1 a2 k
  obtain ⟨ih0, ih1, ih2⟩ := lightstrconv_decimal_text.mono_l k
  unfold lightstrconv_decimal_text.f
  repeat' first
      | (with_reducible exact ih0 _ _ _ _ _)
      | (with_reducible exact ih1 _ _ _ _)
      | (with_reducible exact ih2 _ _ _ _ _)
      | (with_reducible exact LeO.refl _)
      | (with_reducible exact LeO.none _)
      | (with_reducible refine LeO.ite ?_ ?_)
      | (with_reducible refine LeO.bind ?_ (fun _ => ?_))
      | exact ih0 _ _ _ _ _
      | exact ih1 _ _ _ _
      | exact ih2 _ _ _ _ _
      | exact LeO.none _
      | refine LeO.ite ?_ ?_
      | refine LeO.bind ?_ (fun _ => ?_)
set_option maxHeartbeats 8000000 in
set_option maxRecDepth 100000 in
theorem lightstrconv_decimal_text.calls (k : Nat) (g : Nat) (s0_0 : List Int) (s0_1 : Int) (a1 : Int) (r1 : ByteArray) (r2 : Int) (w0 w : World) (hI : IsS52 w0 w g s0_0 s0_1) (hB : Below w0.heap.size w0 w) (h : lightstrconv_decimal_text.f k s0_0 s0_1 a1 = some (r1, r2)) :
    Calls Try.prog 24 #[.pointer (some ⟨g, 0, none⟩), .int .i64 a1] w fun e w' => e = .returned (.string r1) ∧ IsS52 w0 w' g s0_0 r2 ∧ Below w0.heap.size w0 w' ∧ KeepBut w w' g none := by
  have HI0 := Aside0.mk hI
  have HK := Aside0.mk (KeepBut.refl w g none)
  have HL := Aside0.mk hB.size
  clear hI
  have HW0 := Aside0.mk hB.size
  have HB := Aside0.mk hB
  clear hB
  have H : (lightstrconv_decimal_text.l0 k a1 ([] : List Int) 0 s0_0 s0_1) = some (r1, r2) := h
  clear h
  have H' := Aside0.mk H
  clear H
  go_enter Try.func24, Try.ntmps24
  go_wp2
  go_loopg [5, 6] k (fun kq v5 v6 w' => ∃ (x5_1 : List Int) (x6_1 : Int) (x1001_1 : Int), v6 = .int .i64 x6_1 ∧ Aside0 (lightstrconv_decimal_text.l0 kq a1 x5_1 x6_1 s0_0 x1001_1 = some (r1, r2)) ∧ Aside0 (kq ≤ k) ∧ Aside0 (Kd.R (Kd.int .u8) 5 w' w.heap.size (fun _ => True) v5 x5_1) ∧ Aside0 (IsS52 w0 w' g s0_0 x1001_1) ∧ Aside0 (KeepBut w w' g none) ∧ Aside0 (Below w0.heap.size w0 w'))
  case atStart => exact ⟨(([] : List Int)), (0), (s0_1), (by first | rfl | (simp; done) | (simp [*]; done)), H', ⟨Nat.le_refl _⟩, ⟨by first | exact Kd.R_nil _ _ _ _ _ | exact Kd.N_nil _ _ _ _ _ | exact Kd.V_nil _ _ _ _ _ | exact Kd.Q_nil _ _ _ _ _ | exact Kd.S_nil _ _ _ _ _⟩, ⟨by repeat (first | (with_reducible first | exact HI0.out | apply IsS52.alloc | apply IsS52.drewN | apply IsS52.drew | apply IsS52.set_1) | exact HI0.out)⟩, ⟨by repeat (first | (with_reducible first | exact HK.out | apply KeepBut.set_ | apply keep_drewN | apply keep_drew | apply keep_alloc) | exact HK.out)⟩, ⟨by repeat (first | (with_reducible first | exact HB.out | apply below_alloc | apply pw_below_drewN | apply below_drew1 | refine below_set ?_ (IsS52.ge HI0.out)) | exact HB.out)⟩⟩
  case round =>
    clear H'
    try clear c2
    try clear p2
    obtain ⟨x5_1, x6_1, x1001_1, rfl, HA, HK1, HO_5, HI0, HK, HB⟩ := hrel
    cases gk with
    | zero => exact absurd HA.out (by simp [lightstrconv_decimal_text.l0])
    | succ k1 =>
      have H := HA.out
      clear HA
      simp only [lightstrconv_decimal_text.l0] at H
      by_cases c3 : x6_1 < x1001_1
      · rw [if_pos c3] at H
        have c3b0 : decide (x6_1 < x1001_1) = true := decide_eq_true c3
        clear c3
        replace H := Option.bind_eq_some_iff.mp H
        obtain ⟨⟨t106, t107⟩, A40, H⟩ := H
        replace H : (if x5_1.length < 140737488355328 then (lightstrconv_decimal_text.l0 k1 a1 (x5_1 ++ [(48 + t106) % 256]) (wrap64 (x6_1 + 1)) s0_0 t107) else (none)) = some (r1, r2) := H
        have A4 := Aside0.mk A40
        clear A40
        by_cases c5 : x5_1.length < 140737488355328
        · rw [if_pos c5] at H
          have LMc5 := Aside0.mk c5
          clear c5
          obtain ⟨y108, hy108⟩ : ∃ y_ : List Int, y_ = (x5_1 ++ [(48 + t106) % 256]) := ⟨_, rfl⟩
          replace H : (lightstrconv_decimal_text.l0 k1 a1 y108 (wrap64 (x6_1 + 1)) s0_0 t107) = some (r1, r2) := by first | (rw [hy108]; with_reducible exact H) | (have H2_ := (Option.bind_some _ _).symm.trans H; rw [hy108]; with_reducible exact H2_) | (have H2_ := (Option.bind_some _ _).symm.trans H; with_reducible exact H2_) | with_reducible exact H | (rw [hy108]; exact H) | exact H
          have Ny108 := Aside0.mk hy108
          clear hy108
          have H' := Aside0.mk H
          clear H
          obtain ⟨ASz6_0, cSz6_0, HGz6, hgz6, HSz6_0⟩ := HI0.out
          have hcz6_0 := cellS52_0 HGz6
          have hcz6_1 := cellS52_1 HGz6
          have hfz6_1 := blk_frozen HGz6 1
          clear HGz6 hgz6
          go_wp2_with (first | ((with_reducible refine gate_callee (f := 32) rfl ?_); refine goesL_ (some 19) rfl rfl Try.func32 (by kernel_rfl) rfl #[.pointer (some ⟨g, 0, none⟩), .int .i64 x6_1] rfl (by (try simp only [List.map_toArray, List.map_cons, List.map_nil]); first | done | rfl | (simp only [List.length_drop, List.length_take]; rfl)) ?_; (with_reducible refine (lightstrconv_decimal_digit.calls g s0_0 x1001_1 x6_1 t106 t107 w0 _ ?side1 ?side2 A4.out).mono ?_); (case side1 => repeat (first | (with_reducible first | exact HI0.out | apply IsS52.alloc | apply IsS52.drewN | apply IsS52.drew | apply IsS52.set_1) | exact HI0.out)); (case side2 => repeat (first | (with_reducible first | exact HB.out | apply below_alloc | apply pw_below_drewN | apply below_drew1 | refine below_set ?_ (IsS52.ge HI0.out)) | exact HB.out)); rintro e w7 ⟨rfl, hi, hb, hk⟩; refine ⟨_, rfl, ?_⟩; have n0_ := Aside0.mk (Kd.R_mono (Kd.R_keep (IsS52.apart (show IsS52 w0 _ g s0_0 x1001_1 from by repeat (first | (with_reducible first | exact HI0.out | apply IsS52.alloc | apply IsS52.drewN | apply IsS52.drew | apply IsS52.set_1) | exact HI0.out)) (by (with_reducible repeat (first | apply Kd.R_alloc | apply Kd.R_drewN | apply Kd.R_drew)); exact HO_5.out) (by decide)) hk (fun _ h => h.2)) (fun _ h => h.1)); have n1_ := Aside0.mk (KeepBut.trans (by repeat (first | (with_reducible first | exact HK.out | apply KeepBut.set_ | apply keep_drewN | apply keep_drew | apply keep_alloc) | exact HK.out)) hk (.inl rfl)); have n2_ := Aside0.mk (hb); have n3_ := Aside0.mk (hi); clear HO_5; clear HK; clear HB; clear HI0; have HO_5 := n0_; have HK := n1_; have HB := n2_; have HI0 := n3_; clear n0_ n1_ n2_ n3_; (try clear hb); (try clear hb2); (try clear hk); (try clear hi)) | ((with_reducible refine gate_builtin (b := .append) (xs := #[.tmp 16, .tmp 21]) rfl ?_); at_builtin; refine Kd.R_append (Kd.int .u8) w.heap.size rfl (.tmp 16) (.tmp 21) 50 5 (.int .u8 0) 1 rfl Try.underlying50 info5 rfl (by decide) (by omega) u5 x5_1 ((48 + t106) % 256) [.int .u8 ((48 + t106) % 256)] (fun _ => True) (fun _ => False) rfl rfl ?aP (fun _ hk => hk.elim) ?aF ?aO (Below.refl _ _) ?aS ?aL ?_; (case aP => exact rfl); (case aF => exact (fun _ _ => trivial)); (case aO => exact (by (with_reducible repeat (first | apply Kd.R_alloc | apply Kd.R_drewN | apply Kd.R_drew)); exact HO_5.out)); (case aS => exact (keep_size (w := w) (g := g) (row := none) (by repeat (first | (with_reducible first | exact HK.out | apply KeepBut.set_ | apply keep_drewN | apply keep_drew | apply keep_alloc) | exact HK.out)))); (case aL => have := LMc5.out; omega); intro v109 w8 ho hb hg hat; rw [← Ny108.out] at ho; have n0_ := Aside0.mk (IsS52.grown (by repeat (first | (with_reducible first | exact HI0.out | apply IsS52.alloc | apply IsS52.drewN | apply IsS52.drew | apply IsS52.set_1) | exact HI0.out)) hg (IsS52.own_ne HI0.out HO_5.out (by decide))); have n1_ := Aside0.mk (below_weaken (by repeat (first | (with_reducible first | exact HB.out | apply below_alloc | apply pw_below_drewN | apply below_drew1 | refine below_set ?_ (IsS52.ge HI0.out)) | exact HB.out)) HL.out hb); have n2_ := Aside0.mk (KeepBut.trans (by repeat (first | (with_reducible first | exact HK.out | apply KeepBut.set_ | apply keep_drewN | apply keep_drew | apply keep_alloc) | exact HK.out)) (KeepBut.of_grown hg g) (Kd.R_base2 HO_5.out)); have n3_ := Aside0.mk (ho); clear HI0; clear HB; clear HK; clear HO_5; have HI0 := n0_; have HB := n1_; have HK := n2_; have HO110 := n3_; clear n0_ n1_ n2_ n3_; clear ho hb hg hat))
          go_roundg k1
          case measure => have := HK1.out; omega
          case rel => exact ⟨(y108), (wrap64 (x6_1 + 1)), (t107), (by first | rfl | (simp; done) | (simp [*]; done)), H', ⟨by have := HK1.out; omega⟩, ⟨by (with_reducible repeat (first | apply Kd.R_alloc | apply Kd.R_drewN | apply Kd.R_drew)); exact HO110.out⟩, ⟨by repeat (first | (with_reducible first | exact HI0.out | apply IsS52.alloc | apply IsS52.drewN | apply IsS52.drew | apply IsS52.set_1) | exact HI0.out)⟩, ⟨by repeat (first | (with_reducible first | exact HK.out | apply KeepBut.set_ | apply keep_drewN | apply keep_drew | apply keep_alloc) | exact HK.out)⟩, ⟨by repeat (first | (with_reducible first | exact HB.out | apply below_alloc | apply pw_below_drewN | apply below_drew1 | refine below_set ?_ (IsS52.ge HI0.out)) | exact HB.out)⟩⟩
        · rw [if_neg c5] at H
          exact absurd H (by simp)
      · rw [if_neg c3] at H
        have c3b0 : decide (x6_1 < x1001_1) = false := decide_eq_false c3
        clear c3
        have HC9 := Aside0.mk H
        clear H
        obtain ⟨ASz10_0, cSz10_0, HGz10, hgz10, HSz10_0⟩ := HI0.out
        have hcz10_0 := cellS52_0 HGz10
        have hcz10_1 := cellS52_1 HGz10
        have hfz10_1 := blk_frozen HGz10 1
        clear HGz10 hgz10
        obtain ⟨Ao11, co11, eo11⟩ := Kd.R_slice HO_5.out
        subst eo11
        go_upto_if 25 with (fail)
        go_cut [5] (fun v5 wc => ∃ (kq : Nat) (x5_8 : List Int), Aside0 (lightstrconv_decimal_text.j1 kq a1 x5_8 s0_0 x1001_1 = some (r1, r2)) ∧ Aside0 (kq ≤ k1) ∧ Aside0 (Kd.R (Kd.int .u8) 5 wc w.heap.size (fun _ => True) v5 x5_8) ∧ Aside0 (IsS52 w0 wc g s0_0 x1001_1) ∧ Aside0 (KeepBut w wc g none) ∧ Aside0 (Below w0.heap.size w0 wc))
        case first =>
          have H := HC9.out
          clear HC9
          by_cases c12 : (x5_1.length : Int) = 0
          · rw [if_pos c12] at H
            have c12b0 : ((x5_1.length : Int) == 0) = true := beq_iff_eq.mpr c12
            have c12b1 : ((x5_1.length : Int) != 0) = false := bne_eq_false_iff_eq.mpr c12
            clear c12
            (first | rw [c12b0] | (simp only [i64_w, i32_w]; rw [c12b0]) | skip)
            by_cases c13 : x5_1.length < 140737488355328
            · rw [if_pos c13] at H
              have LMc13 := Aside0.mk c13
              clear c13
              obtain ⟨y111, hy111⟩ : ∃ y_ : List Int, y_ = (x5_1 ++ [48]) := ⟨_, rfl⟩
              replace H : (lightstrconv_decimal_text.j1 k1 a1 y111 s0_0 x1001_1) = some (r1, r2) := by first | (rw [hy111]; with_reducible exact H) | (have H2_ := (Option.bind_some _ _).symm.trans H; rw [hy111]; with_reducible exact H2_) | (have H2_ := (Option.bind_some _ _).symm.trans H; with_reducible exact H2_) | with_reducible exact H | (rw [hy111]; exact H) | exact H
              have Ny111 := Aside0.mk hy111
              clear hy111
              have H' := Aside0.mk H
              clear H
              go_wp2_with (first | ((with_reducible refine gate_builtin (b := .append) (xs := #[.tmp 26, .tmp 27]) rfl ?_); at_builtin; refine Kd.R_append (Kd.int .u8) w.heap.size rfl (.tmp 26) (.tmp 27) 50 5 (.int .u8 0) 1 rfl Try.underlying50 info5 rfl (by decide) (by omega) (.slice Ao11 x5_1.length co11) x5_1 48 [.int .u8 48] (fun _ => True) (fun _ => False) rfl rfl ?aP (fun _ hk => hk.elim) ?aF ?aO (Below.refl _ _) ?aS ?aL ?_; (case aP => exact rfl); (case aF => exact (fun _ _ => trivial)); (case aO => exact (by (with_reducible repeat (first | apply Kd.R_alloc | apply Kd.R_drewN | apply Kd.R_drew)); exact HO_5.out)); (case aS => exact (keep_size (w := w) (g := g) (row := none) (by repeat (first | (with_reducible first | exact HK.out | apply KeepBut.set_ | apply keep_drewN | apply keep_drew | apply keep_alloc) | exact HK.out)))); (case aL => have := LMc13.out; omega); intro v112 w14 ho hb hg hat; rw [← Ny111.out] at ho; have n0_ := Aside0.mk (IsS52.grown (by repeat (first | (with_reducible first | exact HI0.out | apply IsS52.alloc | apply IsS52.drewN | apply IsS52.drew | apply IsS52.set_1) | exact HI0.out)) hg (IsS52.own_ne HI0.out HO_5.out (by decide))); have n1_ := Aside0.mk (below_weaken (by repeat (first | (with_reducible first | exact HB.out | apply below_alloc | apply pw_below_drewN | apply below_drew1 | refine below_set ?_ (IsS52.ge HI0.out)) | exact HB.out)) HL.out hb); have n2_ := Aside0.mk (KeepBut.trans (by repeat (first | (with_reducible first | exact HK.out | apply KeepBut.set_ | apply keep_drewN | apply keep_drew | apply keep_alloc) | exact HK.out)) (KeepBut.of_grown hg g) (Kd.R_base2 HO_5.out)); have n3_ := Aside0.mk (ho); clear HI0; clear HB; clear HK; clear HO_5; have HI0 := n0_; have HB := n1_; have HK := n2_; have HO113 := n3_; clear n0_ n1_ n2_ n3_; clear ho hb hg hat))
              go_meet
              case rel => exact ⟨_, (y111), H', ⟨by have := HK1.out; first | omega | exact Nat.le_refl _⟩, ⟨by (with_reducible repeat (first | apply Kd.R_alloc | apply Kd.R_drewN | apply Kd.R_drew)); exact HO113.out⟩, ⟨by repeat (first | (with_reducible first | exact HI0.out | apply IsS52.alloc | apply IsS52.drewN | apply IsS52.drew | apply IsS52.set_1) | exact HI0.out)⟩, ⟨by repeat (first | (with_reducible first | exact HK.out | apply KeepBut.set_ | apply keep_drewN | apply keep_drew | apply keep_alloc) | exact HK.out)⟩, ⟨by repeat (first | (with_reducible first | exact HB.out | apply below_alloc | apply pw_below_drewN | apply below_drew1 | refine below_set ?_ (IsS52.ge HI0.out)) | exact HB.out)⟩⟩
            · rw [if_neg c13] at H
              exact absurd H (by simp)
          · rw [if_neg c12] at H
            have c12b0 : ((x5_1.length : Int) == 0) = false := beq_eq_false_iff_ne.mpr c12
            have c12b1 : ((x5_1.length : Int) != 0) = true := bne_iff_ne.mpr c12
            have c12b2 : ¬ (x5_1 = []) := fun h_ => c12 (by rw [h_]; rfl)
            (first | rw [c12b0] | (simp only [i64_w, i32_w]; rw [c12b0]) | skip)
            have H' := Aside0.mk H
            clear H
            go_wp2
            go_meet
            case rel => exact ⟨_, (x5_1), H', ⟨by have := HK1.out; first | omega | exact Nat.le_refl _⟩, ⟨by (with_reducible repeat (first | apply Kd.R_alloc | apply Kd.R_drewN | apply Kd.R_drew)); exact HO_5.out⟩, ⟨by repeat (first | (with_reducible first | exact HI0.out | apply IsS52.alloc | apply IsS52.drewN | apply IsS52.drew | apply IsS52.set_1) | exact HI0.out)⟩, ⟨by repeat (first | (with_reducible first | exact HK.out | apply KeepBut.set_ | apply keep_drewN | apply keep_drew | apply keep_alloc) | exact HK.out)⟩, ⟨by repeat (first | (with_reducible first | exact HB.out | apply below_alloc | apply pw_below_drewN | apply below_drew1 | refine below_set ?_ (IsS52.ge HI0.out)) | exact HB.out)⟩⟩
        case rest =>
          clear HC9
          try clear c1
          try clear c2
          try clear p2
          try clear c3
          try clear c3b0
          try clear c5
          try clear p6
          try clear c12
          try clear c12b0
          try clear c12b1
          try clear c12b2
          try clear c13
          try clear hcz10_0
          try clear hcz10_1
          try clear hcz6_0
          try clear hcz6_1
          try clear hfz10_1
          try clear hfz6_1
          try clear p2
          obtain ⟨kq, x5_8, HA, HJ8, HO_5, HI0, HK, HB⟩ := hcut
          cases kq with
          | zero => exact absurd HA.out (by simp [lightstrconv_decimal_text.j1])
          | succ kj8 =>
            have H := HA.out
            clear HA
            simp only [lightstrconv_decimal_text.j1] at H
            by_cases c15 : a1 > 0
            · rw [if_pos c15] at H
              have c15b0 : decide (0 < a1) = true := decide_eq_true c15
              clear c15
              by_cases c16 : x5_8.length < 140737488355328
              · rw [if_pos c16] at H
                have LMc16 := Aside0.mk c16
                clear c16
                obtain ⟨y114, hy114⟩ : ∃ y_ : List Int, y_ = (x5_8 ++ [46]) := ⟨_, rfl⟩
                replace H : (lightstrconv_decimal_text.l1 kj8 a1 y114 0 s0_0 x1001_1) = some (r1, r2) := by first | (rw [hy114]; with_reducible exact H) | (have H2_ := (Option.bind_some _ _).symm.trans H; rw [hy114]; with_reducible exact H2_) | (have H2_ := (Option.bind_some _ _).symm.trans H; with_reducible exact H2_) | with_reducible exact H | (rw [hy114]; exact H) | exact H
                have Ny114 := Aside0.mk hy114
                clear hy114
                have H' := Aside0.mk H
                clear H
                go_wp2_with (first | ((with_reducible refine gate_builtin (b := .append) (xs := #[.tmp 31, .tmp 32]) rfl ?_); at_builtin; refine Kd.R_append (Kd.int .u8) w.heap.size rfl (.tmp 31) (.tmp 32) 50 5 (.int .u8 0) 1 rfl Try.underlying50 info5 rfl (by decide) (by omega) u5 x5_8 46 [.int .u8 46] (fun _ => True) (fun _ => False) rfl rfl ?aP (fun _ hk => hk.elim) ?aF ?aO (Below.refl _ _) ?aS ?aL ?_; (case aP => exact rfl); (case aF => exact (fun _ _ => trivial)); (case aO => exact (by (with_reducible repeat (first | apply Kd.R_alloc | apply Kd.R_drewN | apply Kd.R_drew)); exact HO_5.out)); (case aS => exact (keep_size (w := w) (g := g) (row := none) (by repeat (first | (with_reducible first | exact HK.out | apply KeepBut.set_ | apply keep_drewN | apply keep_drew | apply keep_alloc) | exact HK.out)))); (case aL => have := LMc16.out; omega); intro v115 w17 ho hb hg hat; rw [← Ny114.out] at ho; have n0_ := Aside0.mk (IsS52.grown (by repeat (first | (with_reducible first | exact HI0.out | apply IsS52.alloc | apply IsS52.drewN | apply IsS52.drew | apply IsS52.set_1) | exact HI0.out)) hg (IsS52.own_ne HI0.out HO_5.out (by decide))); have n1_ := Aside0.mk (below_weaken (by repeat (first | (with_reducible first | exact HB.out | apply below_alloc | apply pw_below_drewN | apply below_drew1 | refine below_set ?_ (IsS52.ge HI0.out)) | exact HB.out)) HL.out hb); have n2_ := Aside0.mk (KeepBut.trans (by repeat (first | (with_reducible first | exact HK.out | apply KeepBut.set_ | apply keep_drewN | apply keep_drew | apply keep_alloc) | exact HK.out)) (KeepBut.of_grown hg g) (Kd.R_base2 HO_5.out)); have n3_ := Aside0.mk (ho); clear HI0; clear HB; clear HK; clear HO_5; have HI0 := n0_; have HB := n1_; have HK := n2_; have HO116 := n3_; clear n0_ n1_ n2_ n3_; clear ho hb hg hat))
                go_loopg [5, 7] kj8 (fun kq v5 v7 w' => ∃ (x5_3 : List Int) (x7_3 : Int) (x1001_3 : Int), v7 = .int .i64 x7_3 ∧ Aside0 (lightstrconv_decimal_text.l1 kq a1 x5_3 x7_3 s0_0 x1001_3 = some (r1, r2)) ∧ Aside0 (kq ≤ kj8) ∧ Aside0 (Kd.R (Kd.int .u8) 5 w' w.heap.size (fun _ => True) v5 x5_3) ∧ Aside0 (IsS52 w0 w' g s0_0 x1001_3) ∧ Aside0 (KeepBut w w' g none) ∧ Aside0 (Below w0.heap.size w0 w'))
                case atStart => exact ⟨(y114), (0), (x1001_1), (by first | rfl | (simp; done) | (simp [*]; done)), H', ⟨Nat.le_refl _⟩, ⟨by (with_reducible repeat (first | apply Kd.R_alloc | apply Kd.R_drewN | apply Kd.R_drew)); exact HO116.out⟩, ⟨by repeat (first | (with_reducible first | exact HI0.out | apply IsS52.alloc | apply IsS52.drewN | apply IsS52.drew | apply IsS52.set_1) | exact HI0.out)⟩, ⟨by repeat (first | (with_reducible first | exact HK.out | apply KeepBut.set_ | apply keep_drewN | apply keep_drew | apply keep_alloc) | exact HK.out)⟩, ⟨by repeat (first | (with_reducible first | exact HB.out | apply below_alloc | apply pw_below_drewN | apply below_drew1 | refine below_set ?_ (IsS52.ge HI0.out)) | exact HB.out)⟩⟩
                case round =>
                  clear H'
                  try clear c1
                  try clear c2
                  try clear p2
                  try clear c3
                  try clear c3b0
                  try clear c5
                  try clear p6
                  try clear c12
                  try clear c12b0
                  try clear c12b1
                  try clear c12b2
                  try clear c13
                  try clear c15
                  try clear c15b0
                  try clear c16
                  try clear hcz10_0
                  try clear hcz10_1
                  try clear hcz6_0
                  try clear hcz6_1
                  try clear hfz10_1
                  try clear hfz6_1
                  try clear p2
                  try clear p6
                  obtain ⟨x5_3, x7_3, x1001_3, rfl, HA, HK3, HO_5, HI0, HK, HB⟩ := hrel
                  cases gk with
                  | zero => exact absurd HA.out (by simp [lightstrconv_decimal_text.l1])
                  | succ k3 =>
                    have H := HA.out
                    clear HA
                    simp only [lightstrconv_decimal_text.l1] at H
                    by_cases c18 : x7_3 < a1
                    · rw [if_pos c18] at H
                      have c18b0 : decide (x7_3 < a1) = true := decide_eq_true c18
                      clear c18
                      replace H := Option.bind_eq_some_iff.mp H
                      obtain ⟨⟨t117, t118⟩, A190, H⟩ := H
                      replace H : (if x5_3.length < 140737488355328 then (lightstrconv_decimal_text.l1 k3 a1 (x5_3 ++ [(48 + t117) % 256]) (wrap64 (x7_3 + 1)) s0_0 t118) else (none)) = some (r1, r2) := H
                      have A19 := Aside0.mk A190
                      clear A190
                      by_cases c20 : x5_3.length < 140737488355328
                      · rw [if_pos c20] at H
                        have LMc20 := Aside0.mk c20
                        clear c20
                        obtain ⟨y119, hy119⟩ : ∃ y_ : List Int, y_ = (x5_3 ++ [(48 + t117) % 256]) := ⟨_, rfl⟩
                        replace H : (lightstrconv_decimal_text.l1 k3 a1 y119 (wrap64 (x7_3 + 1)) s0_0 t118) = some (r1, r2) := by first | (rw [hy119]; with_reducible exact H) | (have H2_ := (Option.bind_some _ _).symm.trans H; rw [hy119]; with_reducible exact H2_) | (have H2_ := (Option.bind_some _ _).symm.trans H; with_reducible exact H2_) | with_reducible exact H | (rw [hy119]; exact H) | exact H
                        have Ny119 := Aside0.mk hy119
                        clear hy119
                        have H' := Aside0.mk H
                        clear H
                        obtain ⟨ASz21_0, cSz21_0, HGz21, hgz21, HSz21_0⟩ := HI0.out
                        have hcz21_0 := cellS52_0 HGz21
                        have hcz21_1 := cellS52_1 HGz21
                        have hfz21_1 := blk_frozen HGz21 1
                        clear HGz21 hgz21
                        go_wp2_with (first | ((with_reducible refine gate_callee (f := 32) rfl ?_); refine goesL_ (some 47) rfl rfl Try.func32 (by kernel_rfl) rfl #[.pointer (some ⟨g, 0, none⟩), .int .i64 (wrap64 (x1001_3 + x7_3))] rfl (by (try simp only [List.map_toArray, List.map_cons, List.map_nil]); first | done | rfl | (simp only [List.length_drop, List.length_take]; rfl)) ?_; (with_reducible refine (lightstrconv_decimal_digit.calls g s0_0 x1001_3 (wrap64 (x1001_3 + x7_3)) t117 t118 w0 _ ?side1 ?side2 A19.out).mono ?_); (case side1 => repeat (first | (with_reducible first | exact HI0.out | apply IsS52.alloc | apply IsS52.drewN | apply IsS52.drew | apply IsS52.set_1) | exact HI0.out)); (case side2 => repeat (first | (with_reducible first | exact HB.out | apply below_alloc | apply pw_below_drewN | apply below_drew1 | refine below_set ?_ (IsS52.ge HI0.out)) | exact HB.out)); rintro e w22 ⟨rfl, hi, hb, hk⟩; refine ⟨_, rfl, ?_⟩; have n0_ := Aside0.mk (Kd.R_mono (Kd.R_keep (IsS52.apart (show IsS52 w0 _ g s0_0 x1001_3 from by repeat (first | (with_reducible first | exact HI0.out | apply IsS52.alloc | apply IsS52.drewN | apply IsS52.drew | apply IsS52.set_1) | exact HI0.out)) (by (with_reducible repeat (first | apply Kd.R_alloc | apply Kd.R_drewN | apply Kd.R_drew)); exact HO_5.out) (by decide)) hk (fun _ h => h.2)) (fun _ h => h.1)); have n1_ := Aside0.mk (KeepBut.trans (by repeat (first | (with_reducible first | exact HK.out | apply KeepBut.set_ | apply keep_drewN | apply keep_drew | apply keep_alloc) | exact HK.out)) hk (.inl rfl)); have n2_ := Aside0.mk (hb); have n3_ := Aside0.mk (hi); clear HO_5; clear HK; clear HB; clear HI0; have HO_5 := n0_; have HK := n1_; have HB := n2_; have HI0 := n3_; clear n0_ n1_ n2_ n3_; (try clear hb); (try clear hb2); (try clear hk); (try clear hi)) | ((with_reducible refine gate_builtin (b := .append) (xs := #[.tmp 39, .tmp 49]) rfl ?_); at_builtin; refine Kd.R_append (Kd.int .u8) w.heap.size rfl (.tmp 39) (.tmp 49) 50 5 (.int .u8 0) 1 rfl Try.underlying50 info5 rfl (by decide) (by omega) u5 x5_3 ((48 + t117) % 256) [.int .u8 ((48 + t117) % 256)] (fun _ => True) (fun _ => False) rfl rfl ?aP (fun _ hk => hk.elim) ?aF ?aO (Below.refl _ _) ?aS ?aL ?_; (case aP => exact rfl); (case aF => exact (fun _ _ => trivial)); (case aO => exact (by (with_reducible repeat (first | apply Kd.R_alloc | apply Kd.R_drewN | apply Kd.R_drew)); exact HO_5.out)); (case aS => exact (keep_size (w := w) (g := g) (row := none) (by repeat (first | (with_reducible first | exact HK.out | apply KeepBut.set_ | apply keep_drewN | apply keep_drew | apply keep_alloc) | exact HK.out)))); (case aL => have := LMc20.out; omega); intro v120 w23 ho hb hg hat; rw [← Ny119.out] at ho; have n0_ := Aside0.mk (IsS52.grown (by repeat (first | (with_reducible first | exact HI0.out | apply IsS52.alloc | apply IsS52.drewN | apply IsS52.drew | apply IsS52.set_1) | exact HI0.out)) hg (IsS52.own_ne HI0.out HO_5.out (by decide))); have n1_ := Aside0.mk (below_weaken (by repeat (first | (with_reducible first | exact HB.out | apply below_alloc | apply pw_below_drewN | apply below_drew1 | refine below_set ?_ (IsS52.ge HI0.out)) | exact HB.out)) HL.out hb); have n2_ := Aside0.mk (KeepBut.trans (by repeat (first | (with_reducible first | exact HK.out | apply KeepBut.set_ | apply keep_drewN | apply keep_drew | apply keep_alloc) | exact HK.out)) (KeepBut.of_grown hg g) (Kd.R_base2 HO_5.out)); have n3_ := Aside0.mk (ho); clear HI0; clear HB; clear HK; clear HO_5; have HI0 := n0_; have HB := n1_; have HK := n2_; have HO121 := n3_; clear n0_ n1_ n2_ n3_; clear ho hb hg hat))
                        go_roundg k3
                        case measure => have := HK1.out; have := HJ8.out; have := HK3.out; omega
                        case rel => exact ⟨(y119), (wrap64 (x7_3 + 1)), (t118), (by first | rfl | (simp; done) | (simp [*]; done)), H', ⟨by have := HK1.out; have := HJ8.out; have := HK3.out; omega⟩, ⟨by (with_reducible repeat (first | apply Kd.R_alloc | apply Kd.R_drewN | apply Kd.R_drew)); exact HO121.out⟩, ⟨by repeat (first | (with_reducible first | exact HI0.out | apply IsS52.alloc | apply IsS52.drewN | apply IsS52.drew | apply IsS52.set_1) | exact HI0.out)⟩, ⟨by repeat (first | (with_reducible first | exact HK.out | apply KeepBut.set_ | apply keep_drewN | apply keep_drew | apply keep_alloc) | exact HK.out)⟩, ⟨by repeat (first | (with_reducible first | exact HB.out | apply below_alloc | apply pw_below_drewN | apply below_drew1 | refine below_set ?_ (IsS52.ge HI0.out)) | exact HB.out)⟩⟩
                      · rw [if_neg c20] at H
                        exact absurd H (by simp)
                    · rw [if_neg c18] at H
                      have c18b0 : decide (x7_3 < a1) = false := decide_eq_false c18
                      clear c18
                      simp only [Option.some.injEq, Prod.mk.injEq] at H
                      obtain ⟨rfl, rfl⟩ := H
                      have hcv24 := own_string (P := Try.prog) Try.underlying50 Try.underlying5 Try.underlying9 (Kd.own_of_R HO_5.out)
                      go_wp2
                      go_ret
                      exact ⟨by first | rfl | (simp [errW_none, errW_some] <;> rfl) | (simp [*, errW_none, errW_some] <;> rfl), by repeat (first | (with_reducible first | exact HI0.out | apply IsS52.alloc | apply IsS52.drewN | apply IsS52.drew | apply IsS52.set_1) | exact HI0.out), by repeat (first | (with_reducible first | exact HB.out | apply below_alloc | apply pw_below_drewN | apply below_drew1 | refine below_set ?_ (IsS52.ge HI0.out)) | exact HB.out), by repeat (first | (with_reducible first | exact HK.out | apply KeepBut.set_ | apply keep_drewN | apply keep_drew | apply keep_alloc) | exact HK.out)⟩
              · rw [if_neg c16] at H
                exact absurd H (by simp)
            · rw [if_neg c15] at H
              have c15b0 : decide (0 < a1) = false := decide_eq_false c15
              clear c15
              simp only [Option.some.injEq, Prod.mk.injEq] at H
              obtain ⟨rfl, rfl⟩ := H
              have hcv25 := own_string (P := Try.prog) Try.underlying50 Try.underlying5 Try.underlying9 (Kd.own_of_R HO_5.out)
              go_wp2
              go_ret
              exact ⟨by first | rfl | (simp [errW_none, errW_some] <;> rfl) | (simp [*, errW_none, errW_some] <;> rfl), by repeat (first | (with_reducible first | exact HI0.out | apply IsS52.alloc | apply IsS52.drewN | apply IsS52.drew | apply IsS52.set_1) | exact HI0.out), by repeat (first | (with_reducible first | exact HB.out | apply below_alloc | apply pw_below_drewN | apply below_drew1 | refine below_set ?_ (IsS52.ge HI0.out)) | exact HB.out), by repeat (first | (with_reducible first | exact HK.out | apply KeepBut.set_ | apply keep_drewN | apply keep_drew | apply keep_alloc) | exact HK.out)⟩

/-! ### lightstrconv_formOf: function 16 -/
def lightstrconv_formOf.f (a0 : Int) : Option (Int × Int × Int) := if a0 = 32 then (some (23, 8, (-127))) else (some (52, 11, (-1023)))
set_option maxHeartbeats 8000000 in
set_option maxRecDepth 100000 in
theorem lightstrconv_formOf.calls (a0 : Int) (r1 : Int) (r2 : Int) (r3 : Int) (w : World) (h : lightstrconv_formOf.f a0 = some (r1, r2, r3)) :
    Calls Try.prog 16 #[.int .i64 a0] w fun e w' => e = .returned (.agg #[.int .i64 r1, .int .i64 r2, .int .i64 r3]) ∧ Below w.heap.size w w' := by
  have hu42 := Try.underlying42
  have HB := Aside0.mk (Below.refl w.heap.size w)
  have H : (if a0 = 32 then (some (23, 8, (-127))) else (some (52, 11, (-1023)))) = some (r1, r2, r3) := h
  clear h
  by_cases c2 : a0 = 32
  · rw [if_pos c2] at H
    have c2b0 : (a0 == 32) = true := beq_iff_eq.mpr c2
    have c2b1 : (a0 != 32) = false := bne_eq_false_iff_eq.mpr c2
    clear c2
    simp only [Option.some.injEq, Prod.mk.injEq] at H
    obtain ⟨rfl, rfl, rfl⟩ := H
    go_enter Try.func16, Try.ntmps16
    go_wp2_with (first | ((with_reducible refine gate_dst (N := 2) rfl ?_); refine box_event ?hg (N := 2) ?hd (cs := #[.int .i64 0, .int .i64 0, .int .i64 0]) (t := 42) ?hr ?_; (case hd => rfl); (case hg => rfl); (case hr => first | (go_simp; done) | (go_simp; rfl)); intro gb122 hg w3 hbox hb; have n0_ := Aside0.mk (below_step (by repeat (first | (with_reducible first | exact HB.out | apply below_alloc | apply pw_below_drewN | apply below_drew1) | exact HB.out)) hb); have n1_ := Aside0.mk (hbox); have n2_ := Aside0.mk ((by rw [hg]; exact (below_size (by repeat (first | (with_reducible first | exact HB.out | apply below_alloc | apply pw_below_drewN | apply below_drew1) | exact HB.out))) : w.heap.size ≤ gb122)); have n3_ := Aside0.mk ((by rw [hg]; exact (below_size (by repeat (first | (with_reducible first | exact HB.out | apply below_alloc | apply pw_below_drewN | apply below_drew1) | exact HB.out))) : w.heap.size ≤ gb122)); clear HB; have HB := n0_; have BK122 := n1_; have GW122 := n2_; have GE122 := n3_; clear n0_ n1_ n2_ n3_; clear hb hbox hg; have hcz4_0 : w3.cell? ⟨gb122, 0, none⟩ = some (.int .i64 0) := (blk_cell BK122.out 0).trans rfl; have hcz4_1 : w3.cell? ⟨gb122, 1, none⟩ = some (.int .i64 0) := (blk_cell BK122.out 1).trans rfl; have hcz4_2 : w3.cell? ⟨gb122, 2, none⟩ = some (.int .i64 0) := (blk_cell BK122.out 2).trans rfl; have hfz4_0 := blk_frozen BK122.out 0; have hfz4_1 := blk_frozen BK122.out 1; have hfz4_2 := blk_frozen BK122.out 2))
    refine bodyPost_ret (results_cell_row rfl _ _ gb122 42 #[.int .i64 23, .int .i64 8, .int .i64 (-127)] (0, 0) _ rfl (by (with_reducible repeat (first | refine blk_drewN ?_ _ | refine blk_drew ?_ | refine blk_alloc ?_ _)); refine blk_put (cs := #[.int .i64 23, .int .i64 8, .int .i64 0]) ?_ 2 _ rfl; (with_reducible repeat (first | refine blk_drewN ?_ _ | refine blk_drew ?_ | refine blk_alloc ?_ _)); refine blk_put (cs := #[.int .i64 23, .int .i64 0, .int .i64 0]) ?_ 1 _ rfl; (with_reducible repeat (first | refine blk_drewN ?_ _ | refine blk_drew ?_ | refine blk_alloc ?_ _)); refine blk_put (cs := #[.int .i64 0, .int .i64 0, .int .i64 0]) ?_ 0 _ rfl; (with_reducible repeat (first | refine blk_drewN ?_ _ | refine blk_drew ?_ | refine blk_alloc ?_ _)); exact BK122.out) Try.underlying42 rfl (by kernel_rfl)) rfl ?_
    exact ⟨by first | rfl | (simp [errW_none, errW_some] <;> rfl) | (simp [*, errW_none, errW_some] <;> rfl), by repeat (first | (with_reducible first | exact HB.out | apply below_alloc | apply pw_below_drewN | apply below_drew1 | refine below_set ?_ GE122.out) | exact HB.out)⟩
  · rw [if_neg c2] at H
    have c2b0 : (a0 == 32) = false := beq_eq_false_iff_ne.mpr c2
    have c2b1 : (a0 != 32) = true := bne_iff_ne.mpr c2
    simp only [Option.some.injEq, Prod.mk.injEq] at H
    obtain ⟨rfl, rfl, rfl⟩ := H
    go_enter Try.func16, Try.ntmps16
    go_wp2_with (first | ((with_reducible refine gate_dst (N := 2) rfl ?_); refine box_event ?hg (N := 2) ?hd (cs := #[.int .i64 0, .int .i64 0, .int .i64 0]) (t := 42) ?hr ?_; (case hd => rfl); (case hg => rfl); (case hr => first | (go_simp; done) | (go_simp; rfl)); intro gb122 hg w5 hbox hb; have n0_ := Aside0.mk (below_step (by repeat (first | (with_reducible first | exact HB.out | apply below_alloc | apply pw_below_drewN | apply below_drew1) | exact HB.out)) hb); have n1_ := Aside0.mk (hbox); have n2_ := Aside0.mk ((by rw [hg]; exact (below_size (by repeat (first | (with_reducible first | exact HB.out | apply below_alloc | apply pw_below_drewN | apply below_drew1) | exact HB.out))) : w.heap.size ≤ gb122)); have n3_ := Aside0.mk ((by rw [hg]; exact (below_size (by repeat (first | (with_reducible first | exact HB.out | apply below_alloc | apply pw_below_drewN | apply below_drew1) | exact HB.out))) : w.heap.size ≤ gb122)); clear HB; have HB := n0_; have BK122 := n1_; have GW122 := n2_; have GE122 := n3_; clear n0_ n1_ n2_ n3_; clear hb hbox hg; have hcz6_0 : w5.cell? ⟨gb122, 0, none⟩ = some (.int .i64 0) := (blk_cell BK122.out 0).trans rfl; have hcz6_1 : w5.cell? ⟨gb122, 1, none⟩ = some (.int .i64 0) := (blk_cell BK122.out 1).trans rfl; have hcz6_2 : w5.cell? ⟨gb122, 2, none⟩ = some (.int .i64 0) := (blk_cell BK122.out 2).trans rfl; have hfz6_0 := blk_frozen BK122.out 0; have hfz6_1 := blk_frozen BK122.out 1; have hfz6_2 := blk_frozen BK122.out 2))
    refine bodyPost_ret (results_cell_row rfl _ _ gb122 42 #[.int .i64 52, .int .i64 11, .int .i64 (-1023)] (0, 0) _ rfl (by (with_reducible repeat (first | refine blk_drewN ?_ _ | refine blk_drew ?_ | refine blk_alloc ?_ _)); refine blk_put (cs := #[.int .i64 52, .int .i64 11, .int .i64 0]) ?_ 2 _ rfl; (with_reducible repeat (first | refine blk_drewN ?_ _ | refine blk_drew ?_ | refine blk_alloc ?_ _)); refine blk_put (cs := #[.int .i64 52, .int .i64 0, .int .i64 0]) ?_ 1 _ rfl; (with_reducible repeat (first | refine blk_drewN ?_ _ | refine blk_drew ?_ | refine blk_alloc ?_ _)); refine blk_put (cs := #[.int .i64 0, .int .i64 0, .int .i64 0]) ?_ 0 _ rfl; (with_reducible repeat (first | refine blk_drewN ?_ _ | refine blk_drew ?_ | refine blk_alloc ?_ _)); exact BK122.out) Try.underlying42 rfl (by kernel_rfl)) rfl ?_
    exact ⟨by first | rfl | (simp [errW_none, errW_some] <;> rfl) | (simp [*, errW_none, errW_some] <;> rfl), by repeat (first | (with_reducible first | exact HB.out | apply below_alloc | apply pw_below_drewN | apply below_drew1 | refine below_set ?_ GE122.out) | exact HB.out)⟩

/-! ### progress_unitScales: function 11 -/
def progress_unitScales.f  : Option (List Int) := some (([1000000000000000, 1000000000000, 1000000000, 1000000, 1000] : List Int))
set_option maxHeartbeats 8000000 in
set_option maxRecDepth 100000 in
theorem progress_unitScales.calls  (r : List Int) (w : World) (h : progress_unitScales.f  = some r) :
    Calls Try.prog 11 #[] w fun e w' => ∃ v0_ : Value, e = .returned (v0_) ∧ Kd.R (Kd.int .i64) 2 w' w.heap.size (fun _ => True) v0_ r ∧ Below w.heap.size w w' := by
  have HB := Aside0.mk (Below.refl w.heap.size w)
  have H : (some (([1000000000000000, 1000000000000, 1000000000, 1000000, 1000] : List Int))) = some r := h
  clear h
  obtain ⟨y123, hy123⟩ : ∃ y_ : List Int, y_ = (([1000000000000000, 1000000000000, 1000000000, 1000000, 1000] : List Int)) := ⟨_, rfl⟩
  replace H : (some y123) = some r := by first | (rw [hy123]; with_reducible exact H) | (have H2_ := (Option.bind_some _ _).symm.trans H; rw [hy123]; with_reducible exact H2_) | (have H2_ := (Option.bind_some _ _).symm.trans H; with_reducible exact H2_) | with_reducible exact H | (rw [hy123]; exact H) | exact H
  have Ny123 := Aside0.mk hy123
  clear hy123
  obtain rfl := Option.some.inj H
  go_enter Try.func11, Try.ntmps11
  go_wp2_with (first | ((with_reducible refine gate_dst (N := 1) rfl ?_); refine Kd.R_lit (Kd.int .i64) _ 2 ?hg (N := 1) ?hd (xs := ([1000000000000000, 1000000000000, 1000000000, 1000000, 1000] : List Int)) (inner := [.int .i64 1000000000000000, .int .i64 1000000000000, .int .i64 1000000000, .int .i64 1000000, .int .i64 1000]) (ok := fun _ => True) (okp := fun _ => True) ?hr ?hp (fun _ hk => hk) trivial (Below.refl _ _) (Nat.le_refl _) (by simp) ?_; (case hd => rfl); (case hg => rfl); (case hr => first | (go_simp; done) | (go_simp; rfl)); (case hp => exact (Reps.one (show Kd.M (Kd.int .i64) _ _ _ 1000000000000000 [.int .i64 1000000000000000] from rfl) (Reps.one (show Kd.M (Kd.int .i64) _ _ _ 1000000000000 [.int .i64 1000000000000] from rfl) (Reps.one (show Kd.M (Kd.int .i64) _ _ _ 1000000000 [.int .i64 1000000000] from rfl) (Reps.one (show Kd.M (Kd.int .i64) _ _ _ 1000000 [.int .i64 1000000] from rfl) (Reps.one (show Kd.M (Kd.int .i64) _ _ _ 1000 [.int .i64 1000] from rfl) (Reps.none _ _))))))); intro v124 w1 ho2 hb hg_ hnew_; clear hg_ hnew_; (first | rw [← Ny123.out] at ho2 | (simp only [Int.reduceToNat] at ho2; rw [← Ny123.out] at ho2)); have n0_ := Aside0.mk (Kd.R_lower ho2 (below_size (by repeat (first | (with_reducible first | exact HB.out | apply below_alloc | apply pw_below_drewN | apply below_drew1) | exact HB.out)))); have n1_ := Aside0.mk (below_step (by repeat (first | (with_reducible first | exact HB.out | apply below_alloc | apply pw_below_drewN | apply below_drew1) | exact HB.out)) hb); clear HB; have HO125 := n0_; have HB := n1_; clear n0_ n1_; clear hb ho2))
  go_ret
  exact ⟨_, by first | rfl | (simp [errW_none, errW_some] <;> rfl) | (simp [*, errW_none, errW_some] <;> rfl), by (with_reducible repeat (first | apply Kd.R_alloc | apply Kd.R_drewN | apply Kd.R_drew)); exact HO125.out, by repeat (first | (with_reducible first | exact HB.out | apply below_alloc | apply pw_below_drewN | apply below_drew1) | exact HB.out)⟩

end Go.Proofs.Ytgemoagbefdemaa.GEU
