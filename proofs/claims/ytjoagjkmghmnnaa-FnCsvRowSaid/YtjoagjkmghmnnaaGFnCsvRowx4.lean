-- printed by a program of this session (gprint.py) out of the translation; Lean checks it
import Derived.Test.YtjoagjkmghmnnaaGFnCsvRowx0
import Derived.Test.YtjoagjkmghmnnaaGFnCsvRowx1
import Derived.Test.YtjoagjkmghmnnaaGFnCsvRowx3
import Derived.Test.YtjoagjkmghmnnaaGivenCsv
namespace Go.Proofs.Ytjoagjkmghmnnaa.GFnCsvRow
open Go.RowKit Go.Proofs.YtjoagjkmghmnnaaW.PrintWords Go.Proofs.YtjoagjkmghmnnaaW.PrintLast Go.Proofs.Ytjoagjkmghmnnaa.GivenCsv Go.Proofs.YtjoagjkmghmnnaaW.PrintMore
attribute [local go_sem] max2_int min2_int max_two min_two max_three min_three max_four min_four   -- for this text's walks alone
set_option linter.unusedVariables false
set_option linter.unusedSimpArgs false

/-! ### laws_FnCsvRow: function 13 -/
def laws_FnCsvRow.j0 : Nat → List ByteArray → Int → Bool → Bool → Int → Bool → Option (Bool)
  | 0, _, _, _, _, _, _ => none
  | k + 1, x0, x1, x2, x3, x4, x24 => if x24 = true then (some true) else ((impl_CsvRow.f x0 x1 x2 x3 x4).bind fun t144 => ((spec_CsvRow.f k x0 x1 x2 x3 x4).bind fun t145 => (some (t144.toList == t145.toList))))
def laws_FnCsvRow.f (k : Nat) (l0 : List ByteArray) (a1 : Int) (a2 : Bool) (a3 : Bool) (a4 : Int) : Option (Bool) := (laws_zzFits4.f k l0).bind fun t142 => (if t142 = true then ((laws_texts.f k l0 2000).bind fun t143 => (if t143 = true then (if a1 < 0 then (laws_FnCsvRow.j0 k l0 a1 a2 a3 a4 true) else (laws_FnCsvRow.j0 k l0 a1 a2 a3 a4 (decide (a1 > 300)))) else (laws_FnCsvRow.j0 k l0 a1 a2 a3 a4 true))) else (some true))
theorem laws_FnCsvRow.mono_l : ∀ k, (∀ y0 y1 y2 y3 y4 y5, LeO (laws_FnCsvRow.j0 k y0 y1 y2 y3 y4 y5) (laws_FnCsvRow.j0 (k + 1) y0 y1 y2 y3 y4 y5))
  | 0 => fun _ _ _ _ _ _ r h => by simp [laws_FnCsvRow.j0] at h
  | k + 1 => by
    have ih0 := laws_FnCsvRow.mono_l k
    · intro y0 y1 y2 y3 y4 y5
      unfold laws_FnCsvRow.j0
      repeat' first
      | (with_reducible exact ih0 _ _ _ _ _ _)
      | (with_reducible exact laws_texts.mono _ _ _)
      | (with_reducible exact laws_zzFits4.mono _ _)
      | (with_reducible exact spec_CsvRow.mono _ _ _ _ _ _)
      | (with_reducible exact LeO.refl _)
      | (with_reducible exact LeO.none _)
      | (with_reducible refine LeO.ite ?_ ?_)
      | (with_reducible refine LeO.bind ?_ (fun _ => ?_))
      | exact ih0 _ _ _ _ _ _
      | exact laws_texts.mono _ _ _
      | exact laws_zzFits4.mono _ _
      | exact spec_CsvRow.mono _ _ _ _ _ _
      | exact LeO.none _
      | refine LeO.ite ?_ ?_
      | refine LeO.bind ?_ (fun _ => ?_)
theorem laws_FnCsvRow.mono : ∀ a0 a1 a2 a3 a4 k, LeO (laws_FnCsvRow.f k a0 a1 a2 a3 a4) (laws_FnCsvRow.f (k + 1) a0 a1 a2 a3 a4) := by
  intro a0 a1 a2 a3 a4 k
  have ih0 := laws_FnCsvRow.mono_l k
  unfold laws_FnCsvRow.f
  repeat' first
      | (with_reducible exact ih0 _ _ _ _ _ _)
      | (with_reducible exact laws_texts.mono _ _ _)
      | (with_reducible exact laws_zzFits4.mono _ _)
      | (with_reducible exact spec_CsvRow.mono _ _ _ _ _ _)
      | (with_reducible exact LeO.refl _)
      | (with_reducible exact LeO.none _)
      | (with_reducible refine LeO.ite ?_ ?_)
      | (with_reducible refine LeO.bind ?_ (fun _ => ?_))
      | exact ih0 _ _ _ _ _ _
      | exact laws_texts.mono _ _ _
      | exact laws_zzFits4.mono _ _
      | exact spec_CsvRow.mono _ _ _ _ _ _
      | exact LeO.none _
      | refine LeO.ite ?_ ?_
      | refine LeO.bind ?_ (fun _ => ?_)
set_option maxHeartbeats 8000000 in
set_option maxRecDepth 100000 in
theorem laws_FnCsvRow.calls (k : Nat) (A0 : Option Addr) (c0 : Nat) (l0 : List ByteArray) (a1 : Int) (a2 : Bool) (a3 : Bool) (a4 : Int) (r : Bool) (w : World) (hr0 : Kd.C Kd.string w A0 l0.length l0) (hc0 : l0.length ≤ c0) (h : laws_FnCsvRow.f k l0 a1 a2 a3 a4 = some r) :
    Calls Try.prog 13 #[.slice A0 l0.length c0, .int .i64 a1, .bool a2, .bool a3, .int .i64 a4] w fun e w' => e = .returned (.bool r) ∧ Below w.heap.size w w' := by
  have HR0 := Aside0.mk hr0
  have HC0 := Aside0.mk hc0
  clear hr0 hc0
  have HB := Aside0.mk (Below.refl w.heap.size w)
  have H : ((laws_zzFits4.f k l0).bind fun t142 => (if t142 = true then ((laws_texts.f k l0 2000).bind fun t143 => (if t143 = true then (if a1 < 0 then (laws_FnCsvRow.j0 k l0 a1 a2 a3 a4 true) else (laws_FnCsvRow.j0 k l0 a1 a2 a3 a4 (decide (a1 > 300)))) else (laws_FnCsvRow.j0 k l0 a1 a2 a3 a4 true))) else (some true))) = some r := h
  clear h
  replace H := Option.bind_eq_some_iff.mp H
  obtain ⟨t142, A60, H⟩ := H
  replace H : (if t142 = true then ((laws_texts.f k l0 2000).bind fun t143 => (if t143 = true then (if a1 < 0 then (laws_FnCsvRow.j0 k l0 a1 a2 a3 a4 true) else (laws_FnCsvRow.j0 k l0 a1 a2 a3 a4 (decide (a1 > 300)))) else (laws_FnCsvRow.j0 k l0 a1 a2 a3 a4 true))) else (some true)) = some r := H
  have A6 := Aside0.mk A60
  clear A60
  by_cases c7 : t142 = true
  · subst c7
    have H1 : ((laws_texts.f k l0 2000).bind fun t143 => (if t143 = true then (if a1 < 0 then (laws_FnCsvRow.j0 k l0 a1 a2 a3 a4 true) else (laws_FnCsvRow.j0 k l0 a1 a2 a3 a4 (decide (a1 > 300)))) else (laws_FnCsvRow.j0 k l0 a1 a2 a3 a4 true))) = some r := by rw [if_pos rfl] at H; exact H
    clear H
    have H := H1
    clear H1
    have HC8 := Aside0.mk H
    clear H
    go_enter Try.func13, Try.ntmps13
    go_upto_region 3 with (first | ((with_reducible refine gate_callee (f := 19) rfl ?_); refine goesL_ (some 12) rfl rfl Try.func19 (by kernel_rfl) rfl #[.slice A0 l0.length c0] rfl (by (try simp only [List.map_toArray, List.map_cons, List.map_nil]); first | done | rfl | (simp only [List.length_drop, List.length_take]; rfl)) ?_; (with_reducible refine (laws_zzFits4.calls k _ _ l0 true _ ?side1 ?side2 A6.out).mono ?_); (case side1 => repeat (first | exact HR0.out | (with_reducible refine Kd.C_alloc ?_ _) | (with_reducible refine Kd.C_drewN ?_ _) | (with_reducible refine Kd.C_drew ?_))); (case side2 => exact HC0.out); rintro e w' ⟨rfl, ⟨nd, rfl⟩⟩; refine ⟨_, rfl, ?_⟩))
    (try simp only [Act.put, List.setIfInBounds_toArray, List.set_cons_zero, List.set_cons_succ])
    go_cut [24] (fun v24 wc => ∃ (kq : Nat) (x24_7 : Bool), v24 = .bool x24_7 ∧ Aside0 (laws_FnCsvRow.j0 kq l0 a1 a2 a3 a4 x24_7 = some r) ∧ Aside0 (kq ≤ k) ∧ Aside0 (Below w.heap.size w wc))
    case first =>
      have H := HC8.out
      clear HC8
      replace H := Option.bind_eq_some_iff.mp H
      obtain ⟨t143, A90, H⟩ := H
      replace H : (if t143 = true then (if a1 < 0 then (laws_FnCsvRow.j0 k l0 a1 a2 a3 a4 true) else (laws_FnCsvRow.j0 k l0 a1 a2 a3 a4 (decide (a1 > 300)))) else (laws_FnCsvRow.j0 k l0 a1 a2 a3 a4 true)) = some r := H
      have A9 := Aside0.mk A90
      clear A90
      by_cases c10 : t143 = true
      · subst c10
        have H1 : (if a1 < 0 then (laws_FnCsvRow.j0 k l0 a1 a2 a3 a4 true) else (laws_FnCsvRow.j0 k l0 a1 a2 a3 a4 (decide (a1 > 300)))) = some r := by rw [if_pos rfl] at H; exact H
        clear H
        have H := H1
        clear H1
        by_cases c11 : a1 < 0
        · rw [if_pos c11] at H
          have c11b0 : decide (a1 < 0) = true := decide_eq_true c11
          clear c11
          (first | rw [c11b0] | (simp only [i64_w, i32_w]; rw [c11b0]) | skip)
          have H' := Aside0.mk H
          clear H
          go_wp2_with (first | ((with_reducible refine gate_callee (f := 20) rfl ?_); refine goesL_ (some 15) rfl rfl Try.func20 (by kernel_rfl) rfl #[.slice A0 l0.length c0, .int .i64 2000] rfl (by (try simp only [List.map_toArray, List.map_cons, List.map_nil]); first | done | rfl | (simp only [List.length_drop, List.length_take]; rfl)) ?_; (with_reducible refine (laws_texts.calls k _ _ l0 2000 true _ ?side1 ?side2 A9.out).mono ?_); (case side1 => repeat (first | exact (Kd.C_below HR0.out HB.out) | (with_reducible refine Kd.C_alloc ?_ _) | (with_reducible refine Kd.C_drewN ?_ _) | (with_reducible refine Kd.C_drew ?_))); (case side2 => exact HC0.out); rintro e w' ⟨rfl, ⟨nd, rfl⟩⟩; refine ⟨_, rfl, ?_⟩))
          go_meet
          case rel => exact ⟨_, (true), (by first | rfl | (simp; done) | (simp [*]; done)), H', ⟨by first | omega | exact Nat.le_refl _⟩, ⟨by repeat (first | (with_reducible first | exact HB.out | apply below_alloc | apply pw_below_drewN | apply below_drew1) | exact HB.out)⟩⟩
        · rw [if_neg c11] at H
          have c11b0 : decide (a1 < 0) = false := decide_eq_false c11
          clear c11
          (first | rw [c11b0] | (simp only [i64_w, i32_w]; rw [c11b0]) | skip)
          have H' := Aside0.mk H
          clear H
          go_wp2_with (first | ((with_reducible refine gate_callee (f := 20) rfl ?_); refine goesL_ (some 15) rfl rfl Try.func20 (by kernel_rfl) rfl #[.slice A0 l0.length c0, .int .i64 2000] rfl (by (try simp only [List.map_toArray, List.map_cons, List.map_nil]); first | done | rfl | (simp only [List.length_drop, List.length_take]; rfl)) ?_; (with_reducible refine (laws_texts.calls k _ _ l0 2000 true _ ?side1 ?side2 A9.out).mono ?_); (case side1 => repeat (first | exact (Kd.C_below HR0.out HB.out) | (with_reducible refine Kd.C_alloc ?_ _) | (with_reducible refine Kd.C_drewN ?_ _) | (with_reducible refine Kd.C_drew ?_))); (case side2 => exact HC0.out); rintro e w' ⟨rfl, ⟨nd, rfl⟩⟩; refine ⟨_, rfl, ?_⟩))
          go_meet
          case rel => exact ⟨_, (decide (a1 > 300)), (by first | rfl | (simp; done) | (simp [*]; done)), H', ⟨by first | omega | exact Nat.le_refl _⟩, ⟨by repeat (first | (with_reducible first | exact HB.out | apply below_alloc | apply pw_below_drewN | apply below_drew1) | exact HB.out)⟩⟩
      · replace c10 := Bool.eq_false_iff.mpr c10
        subst c10
        have H1 : (laws_FnCsvRow.j0 k l0 a1 a2 a3 a4 true) = some r := by rw [if_neg (show ¬ (false = true) by decide)] at H; exact H
        clear H
        have H := H1
        clear H1
        have H' := Aside0.mk H
        clear H
        go_wp2_with (first | ((with_reducible refine gate_callee (f := 20) rfl ?_); refine goesL_ (some 15) rfl rfl Try.func20 (by kernel_rfl) rfl #[.slice A0 l0.length c0, .int .i64 2000] rfl (by (try simp only [List.map_toArray, List.map_cons, List.map_nil]); first | done | rfl | (simp only [List.length_drop, List.length_take]; rfl)) ?_; (with_reducible refine (laws_texts.calls k _ _ l0 2000 false _ ?side1 ?side2 A9.out).mono ?_); (case side1 => repeat (first | exact (Kd.C_below HR0.out HB.out) | (with_reducible refine Kd.C_alloc ?_ _) | (with_reducible refine Kd.C_drewN ?_ _) | (with_reducible refine Kd.C_drew ?_))); (case side2 => exact HC0.out); rintro e w' ⟨rfl, ⟨nd, rfl⟩⟩; refine ⟨_, rfl, ?_⟩))
        go_meet
        case rel => exact ⟨_, (true), (by first | rfl | (simp; done) | (simp [*]; done)), H', ⟨by first | omega | exact Nat.le_refl _⟩, ⟨by repeat (first | (with_reducible first | exact HB.out | apply below_alloc | apply pw_below_drewN | apply below_drew1) | exact HB.out)⟩⟩
    case rest =>
      clear HC8
      try clear c1
      try clear c2
      try clear p2
      try clear c7
      try clear c10
      try clear c11
      try clear c11b0
      obtain ⟨kq, x24_7, rfl, HA, HJ7, HB⟩ := hcut
      cases kq with
      | zero => exact absurd HA.out (by simp [laws_FnCsvRow.j0])
      | succ kj7 =>
        have H := HA.out
        clear HA
        simp only [laws_FnCsvRow.j0] at H
        by_cases c12 : x24_7 = true
        · subst c12
          have H1 : (some true) = some r := by rw [if_pos rfl] at H; exact H
          clear H
          have H := H1
          clear H1
          obtain rfl := Option.some.inj H
          go_wp2
          go_ret
          exact ⟨by first | rfl | (simp [errW_none, errW_some] <;> rfl) | (simp [*, errW_none, errW_some] <;> rfl), by repeat (first | (with_reducible first | exact HB.out | apply below_alloc | apply pw_below_drewN | apply below_drew1) | exact HB.out)⟩
        · replace c12 := Bool.eq_false_iff.mpr c12
          subst c12
          have H1 : ((impl_CsvRow.f l0 a1 a2 a3 a4).bind fun t144 => ((spec_CsvRow.f kj7 l0 a1 a2 a3 a4).bind fun t145 => (some (t144.toList == t145.toList)))) = some r := by rw [if_neg (show ¬ (false = true) by decide)] at H; exact H
          clear H
          have H := H1
          clear H1
          replace H := Option.bind_eq_some_iff.mp H
          obtain ⟨t144, A130, H⟩ := H
          replace H : ((spec_CsvRow.f kj7 l0 a1 a2 a3 a4).bind fun t145 => (some (t144.toList == t145.toList))) = some r := H
          have A13 := Aside0.mk A130
          clear A130
          replace H := Option.bind_eq_some_iff.mp H
          obtain ⟨t145, A140, H⟩ := H
          replace H : (some (t144.toList == t145.toList)) = some r := H
          have A14 := Aside0.mk A140
          clear A140
          obtain rfl := Option.some.inj H
          go_wp2_with (first | ((with_reducible refine gate_callee (f := 39) rfl ?_); refine goesL_ (some 30) rfl rfl Try.func39 (by kernel_rfl) rfl #[.slice A0 l0.length c0, .int .i64 a1, .bool a2, .bool a3, .int .i64 a4] rfl (by (try simp only [List.map_toArray, List.map_cons, List.map_nil]); first | done | rfl | (simp only [List.length_drop, List.length_take]; rfl)) ?_; (with_reducible refine (impl_CsvRow.calls _ _ l0 a1 a2 a3 a4 t144 _ ?side1 ?side2 A13.out).mono ?_); (case side1 => repeat (first | exact (Kd.C_below HR0.out HB.out) | (with_reducible refine Kd.C_alloc ?_ _) | (with_reducible refine Kd.C_drewN ?_ _) | (with_reducible refine Kd.C_drew ?_))); (case side2 => exact HC0.out); rintro e w15 ⟨rfl, hb⟩; refine ⟨_, rfl, ?_⟩; have n0_ := Aside0.mk (below_step (by repeat (first | (with_reducible first | exact HB.out | apply below_alloc | apply pw_below_drewN | apply below_drew1) | exact HB.out)) hb); clear HB; have HB := n0_; clear n0_; (try clear hb); (try clear hb2); (try clear hk); (try clear hi)) | ((with_reducible refine gate_callee (f := 40) rfl ?_); refine goesL_ (some 36) rfl rfl Try.func40 (by kernel_rfl) rfl #[.slice A0 l0.length c0, .int .i64 a1, .bool a2, .bool a3, .int .i64 a4] rfl (by (try simp only [List.map_toArray, List.map_cons, List.map_nil]); first | done | rfl | (simp only [List.length_drop, List.length_take]; rfl)) ?_; (with_reducible refine (spec_CsvRow.calls kj7 _ _ l0 a1 a2 a3 a4 t145 _ ?side1 ?side2 A14.out).mono ?_); (case side1 => repeat (first | exact (Kd.C_below HR0.out HB.out) | (with_reducible refine Kd.C_alloc ?_ _) | (with_reducible refine Kd.C_drewN ?_ _) | (with_reducible refine Kd.C_drew ?_))); (case side2 => exact HC0.out); rintro e w16 ⟨rfl, hb⟩; refine ⟨_, rfl, ?_⟩; have n0_ := Aside0.mk (below_step (by repeat (first | (with_reducible first | exact HB.out | apply below_alloc | apply pw_below_drewN | apply below_drew1) | exact HB.out)) hb); clear HB; have HB := n0_; clear n0_; (try clear hb); (try clear hb2); (try clear hk); (try clear hi)))
          go_ret
          exact ⟨by first | rfl | (simp [errW_none, errW_some] <;> rfl) | (simp [*, errW_none, errW_some] <;> rfl), by repeat (first | (with_reducible first | exact HB.out | apply below_alloc | apply pw_below_drewN | apply below_drew1) | exact HB.out)⟩
  · replace c7 := Bool.eq_false_iff.mpr c7
    subst c7
    have H1 : (some true) = some r := by rw [if_neg (show ¬ (false = true) by decide)] at H; exact H
    clear H
    have H := H1
    clear H1
    obtain rfl := Option.some.inj H
    go_enter Try.func13, Try.ntmps13
    go_wp2_with (first | ((with_reducible refine gate_callee (f := 19) rfl ?_); refine goesL_ (some 12) rfl rfl Try.func19 (by kernel_rfl) rfl #[.slice A0 l0.length c0] rfl (by (try simp only [List.map_toArray, List.map_cons, List.map_nil]); first | done | rfl | (simp only [List.length_drop, List.length_take]; rfl)) ?_; (with_reducible refine (laws_zzFits4.calls k _ _ l0 false _ ?side1 ?side2 A6.out).mono ?_); (case side1 => repeat (first | exact HR0.out | (with_reducible refine Kd.C_alloc ?_ _) | (with_reducible refine Kd.C_drewN ?_ _) | (with_reducible refine Kd.C_drew ?_))); (case side2 => exact HC0.out); rintro e w' ⟨rfl, ⟨nd, rfl⟩⟩; refine ⟨_, rfl, ?_⟩))
    go_ret
    exact ⟨by first | rfl | (simp [errW_none, errW_some] <;> rfl) | (simp [*, errW_none, errW_some] <;> rfl), by repeat (first | (with_reducible first | exact HB.out | apply below_alloc | apply pw_below_drewN | apply below_drew1) | exact HB.out)⟩

end Go.Proofs.Ytjoagjkmghmnnaa.GFnCsvRow
