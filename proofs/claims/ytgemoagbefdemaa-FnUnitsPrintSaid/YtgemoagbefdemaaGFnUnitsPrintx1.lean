-- printed by a program of this session (gprint.py) out of the translation; Lean checks it
import Derived.Test.YtgemoagbefdemaaGFnUnitsPrintx0
import Derived.Test.YtgemoagbefdemaaGivenUn
namespace Go.Proofs.Ytgemoagbefdemaa.GFnUnitsPrint
open Go.RowKit Go.Proofs.YtgemoagbefdemaaW.PrintWords Go.Proofs.YtgemoagbefdemaaW.PrintLast Go.Proofs.Ytgemoagbefdemaa.GivenUn Go.Proofs.YtgemoagbefdemaaW.PrintMore
attribute [local go_sem] max2_int min2_int max_two min_two max_three min_three max_four min_four   -- for this text's walks alone
set_option linter.unusedVariables false
set_option linter.unusedSimpArgs false

-- GIVEN: impl_FormatNumber

-- GIVEN: impl_FormatBytes

-- GIVEN: impl_UnitsPrint

/-! ### laws_FnUnitsPrint: function 3 -/
def laws_FnUnitsPrint.f (a0 : Int) (a1 : ByteArray) (a2 : Bool) (a3 : Int) : Option (Bool) := if (a1.size : Int) > 2147483647 then (some true) else (if (a1.size : Int) > 100 then (some true) else ((impl_FormatNumber.f a3).bind fun t101 => (if (Int.tmod a0 3) = 2 then ((impl_FormatBytes.f a3).bind fun t102 => (if a1.size + t102.size ≤ 9223372036854775807 then (if a2 = true then (if t102.size + a1.size ≤ 9223372036854775807 then ((impl_UnitsPrint.f (wrap64 (Int.tmod a0 3)) a1 1 a3).bind fun t103 => (some (t103.toList == (t102 ++ a1).toList))) else (none)) else ((impl_UnitsPrint.f (wrap64 (Int.tmod a0 3)) a1 0 a3).bind fun t104 => (some (t104.toList == (a1 ++ t102).toList)))) else (none))) else (if a1.size + t101.size ≤ 9223372036854775807 then (if a2 = true then (if t101.size + a1.size ≤ 9223372036854775807 then ((impl_UnitsPrint.f (wrap64 (Int.tmod a0 3)) a1 1 a3).bind fun t105 => (some (t105.toList == (t101 ++ a1).toList))) else (none)) else ((impl_UnitsPrint.f (wrap64 (Int.tmod a0 3)) a1 0 a3).bind fun t106 => (some (t106.toList == (a1 ++ t101).toList)))) else (none)))))
set_option maxHeartbeats 8000000 in
set_option maxRecDepth 100000 in
theorem laws_FnUnitsPrint.calls (a0 : Int) (a1 : ByteArray) (a2 : Bool) (a3 : Int) (r : Bool) (w : World) (h : laws_FnUnitsPrint.f a0 a1 a2 a3 = some r) :
    Calls Try.prog 3 #[.int .u8 a0, .string a1, .bool a2, .int .i64 a3] w fun e w' => e = .returned (.bool r) ∧ Below w.heap.size w w' := by
  have HB := Aside0.mk (Below.refl w.heap.size w)
  have H : (if (a1.size : Int) > 2147483647 then (some true) else (if (a1.size : Int) > 100 then (some true) else ((impl_FormatNumber.f a3).bind fun t101 => (if (Int.tmod a0 3) = 2 then ((impl_FormatBytes.f a3).bind fun t102 => (if a1.size + t102.size ≤ 9223372036854775807 then (if a2 = true then (if t102.size + a1.size ≤ 9223372036854775807 then ((impl_UnitsPrint.f (wrap64 (Int.tmod a0 3)) a1 1 a3).bind fun t103 => (some (t103.toList == (t102 ++ a1).toList))) else (none)) else ((impl_UnitsPrint.f (wrap64 (Int.tmod a0 3)) a1 0 a3).bind fun t104 => (some (t104.toList == (a1 ++ t102).toList)))) else (none))) else (if a1.size + t101.size ≤ 9223372036854775807 then (if a2 = true then (if t101.size + a1.size ≤ 9223372036854775807 then ((impl_UnitsPrint.f (wrap64 (Int.tmod a0 3)) a1 1 a3).bind fun t105 => (some (t105.toList == (t101 ++ a1).toList))) else (none)) else ((impl_UnitsPrint.f (wrap64 (Int.tmod a0 3)) a1 0 a3).bind fun t106 => (some (t106.toList == (a1 ++ t101).toList)))) else (none)))))) = some r := h
  clear h
  by_cases c5 : (a1.size : Int) > 2147483647
  · rw [if_pos c5] at H
    have c5b0 : decide (2147483647 < (a1.size : Int)) = true := decide_eq_true c5
    have c5b1 : decide (2147483647 < a1.size) = true := decide_eq_true (by omega)
    clear c5
    obtain rfl := Option.some.inj H
    go_enter Try.func3, Try.ntmps3
    go_wp2
    go_ret
    exact ⟨by first | rfl | (simp [errW_none, errW_some] <;> rfl) | (simp [*, errW_none, errW_some] <;> rfl), by repeat (first | (with_reducible first | exact HB.out | apply below_alloc | apply pw_below_drewN | apply below_drew1) | exact HB.out)⟩
  · rw [if_neg c5] at H
    have c5b0 : decide (2147483647 < (a1.size : Int)) = false := decide_eq_false c5
    have c5b1 : decide (2147483647 < a1.size) = false := decide_eq_false (by omega)
    clear c5
    by_cases c6 : (a1.size : Int) > 100
    · rw [if_pos c6] at H
      have c6b0 : decide (100 < (a1.size : Int)) = true := decide_eq_true c6
      have c6b1 : decide (100 < a1.size) = true := decide_eq_true (by omega)
      clear c6
      obtain rfl := Option.some.inj H
      go_enter Try.func3, Try.ntmps3
      go_wp2
      go_ret
      exact ⟨by first | rfl | (simp [errW_none, errW_some] <;> rfl) | (simp [*, errW_none, errW_some] <;> rfl), by repeat (first | (with_reducible first | exact HB.out | apply below_alloc | apply pw_below_drewN | apply below_drew1) | exact HB.out)⟩
    · rw [if_neg c6] at H
      have c6b0 : decide (100 < (a1.size : Int)) = false := decide_eq_false c6
      have c6b1 : decide (100 < a1.size) = false := decide_eq_false (by omega)
      clear c6
      replace H := Option.bind_eq_some_iff.mp H
      obtain ⟨t101, A70, H⟩ := H
      replace H : (if (Int.tmod a0 3) = 2 then ((impl_FormatBytes.f a3).bind fun t102 => (if a1.size + t102.size ≤ 9223372036854775807 then (if a2 = true then (if t102.size + a1.size ≤ 9223372036854775807 then ((impl_UnitsPrint.f (wrap64 (Int.tmod a0 3)) a1 1 a3).bind fun t103 => (some (t103.toList == (t102 ++ a1).toList))) else (none)) else ((impl_UnitsPrint.f (wrap64 (Int.tmod a0 3)) a1 0 a3).bind fun t104 => (some (t104.toList == (a1 ++ t102).toList)))) else (none))) else (if a1.size + t101.size ≤ 9223372036854775807 then (if a2 = true then (if t101.size + a1.size ≤ 9223372036854775807 then ((impl_UnitsPrint.f (wrap64 (Int.tmod a0 3)) a1 1 a3).bind fun t105 => (some (t105.toList == (t101 ++ a1).toList))) else (none)) else ((impl_UnitsPrint.f (wrap64 (Int.tmod a0 3)) a1 0 a3).bind fun t106 => (some (t106.toList == (a1 ++ t101).toList)))) else (none))) = some r := H
      have A7 := Aside0.mk A70
      clear A70
      by_cases c8 : (Int.tmod a0 3) = 2
      · rw [if_pos c8] at H
        have c8b0 : ((Int.tmod a0 3) == 2) = true := beq_iff_eq.mpr c8
        have c8b1 : ((Int.tmod a0 3) != 2) = false := bne_eq_false_iff_eq.mpr c8
        clear c8
        replace H := Option.bind_eq_some_iff.mp H
        obtain ⟨t102, A90, H⟩ := H
        replace H : (if a1.size + t102.size ≤ 9223372036854775807 then (if a2 = true then (if t102.size + a1.size ≤ 9223372036854775807 then ((impl_UnitsPrint.f (wrap64 (Int.tmod a0 3)) a1 1 a3).bind fun t103 => (some (t103.toList == (t102 ++ a1).toList))) else (none)) else ((impl_UnitsPrint.f (wrap64 (Int.tmod a0 3)) a1 0 a3).bind fun t104 => (some (t104.toList == (a1 ++ t102).toList)))) else (none)) = some r := H
        have A9 := Aside0.mk A90
        clear A90
        by_cases c10 : a1.size + t102.size ≤ 9223372036854775807
        · rw [if_pos c10] at H
          have c10b0 := eq_true c10
          have c10b1 : decide (a1.size + t102.size ≤ 9223372036854775807) = true := decide_eq_true c10
          try have c10b2 : (9223372036854775807 < a1.size + t102.size) = False := eq_false (Nat.not_lt.2 c10)
          by_cases c11 : a2 = true
          · subst c11
            have H1 : (if t102.size + a1.size ≤ 9223372036854775807 then ((impl_UnitsPrint.f (wrap64 (Int.tmod a0 3)) a1 1 a3).bind fun t103 => (some (t103.toList == (t102 ++ a1).toList))) else (none)) = some r := by rw [if_pos rfl] at H; exact H
            clear H
            have H := H1
            clear H1
            by_cases c12 : t102.size + a1.size ≤ 9223372036854775807
            · rw [if_pos c12] at H
              have c12b0 := eq_true c12
              have c12b1 : decide (t102.size + a1.size ≤ 9223372036854775807) = true := decide_eq_true c12
              try have c12b2 : (9223372036854775807 < t102.size + a1.size) = False := eq_false (Nat.not_lt.2 c12)
              replace H := Option.bind_eq_some_iff.mp H
              obtain ⟨t103, A130, H⟩ := H
              replace H : (some (t103.toList == (t102 ++ a1).toList)) = some r := H
              have A13 := Aside0.mk A130
              clear A130
              obtain rfl := Option.some.inj H
              go_enter Try.func3, Try.ntmps3
              go_wp2_with (first | ((with_reducible refine gate_callee (f := 4) rfl ?_); refine goesL_ (some 19) rfl rfl Try.func4 (by kernel_rfl) rfl #[.int .i64 a3] rfl (by (try simp only [List.map_toArray, List.map_cons, List.map_nil]); first | done | rfl | (simp only [List.length_drop, List.length_take]; rfl)) ?_; (with_reducible refine (impl_FormatNumber.calls a3 t101 _ A7.out).mono ?_); rintro e w14 ⟨rfl, hb⟩; refine ⟨_, rfl, ?_⟩; have n0_ := Aside0.mk (below_step (by repeat (first | (with_reducible first | exact HB.out | apply below_alloc | apply pw_below_drewN | apply below_drew1) | exact HB.out)) hb); clear HB; have HB := n0_; clear n0_; (try clear hb); (try clear hb2); (try clear hk); (try clear hi)) | ((with_reducible refine gate_callee (f := 5) rfl ?_); refine goesL_ (some 24) rfl rfl Try.func5 (by kernel_rfl) rfl #[.int .i64 a3] rfl (by (try simp only [List.map_toArray, List.map_cons, List.map_nil]); first | done | rfl | (simp only [List.length_drop, List.length_take]; rfl)) ?_; (with_reducible refine (impl_FormatBytes.calls a3 t102 _ A9.out).mono ?_); rintro e w15 ⟨rfl, hb⟩; refine ⟨_, rfl, ?_⟩; have n0_ := Aside0.mk (below_step (by repeat (first | (with_reducible first | exact HB.out | apply below_alloc | apply pw_below_drewN | apply below_drew1) | exact HB.out)) hb); clear HB; have HB := n0_; clear n0_; (try clear hb); (try clear hb2); (try clear hk); (try clear hi)) | ((with_reducible refine gate_callee (f := 6) rfl ?_); refine goesL_ (some 38) rfl rfl Try.func6 (by kernel_rfl) rfl #[.int .i64 (wrap64 (Int.tmod a0 3)), .string a1, .int .i64 1, .int .i64 a3] rfl (by (try simp only [List.map_toArray, List.map_cons, List.map_nil]); first | done | rfl | (simp only [List.length_drop, List.length_take]; rfl)) ?_; (with_reducible refine (impl_UnitsPrint.calls (wrap64 (Int.tmod a0 3)) a1 1 a3 t103 _ A13.out).mono ?_); rintro e w16 ⟨rfl, hb⟩; refine ⟨_, rfl, ?_⟩; have n0_ := Aside0.mk (below_step (by repeat (first | (with_reducible first | exact HB.out | apply below_alloc | apply pw_below_drewN | apply below_drew1) | exact HB.out)) hb); clear HB; have HB := n0_; clear n0_; (try clear hb); (try clear hb2); (try clear hk); (try clear hi)))
              go_ret
              exact ⟨by first | rfl | (simp [errW_none, errW_some] <;> rfl) | (simp [*, errW_none, errW_some] <;> rfl), by repeat (first | (with_reducible first | exact HB.out | apply below_alloc | apply pw_below_drewN | apply below_drew1) | exact HB.out)⟩
            · rw [if_neg c12] at H
              exact absurd H (by simp)
          · replace c11 := Bool.eq_false_iff.mpr c11
            subst c11
            have H1 : ((impl_UnitsPrint.f (wrap64 (Int.tmod a0 3)) a1 0 a3).bind fun t104 => (some (t104.toList == (a1 ++ t102).toList))) = some r := by rw [if_neg (show ¬ (false = true) by decide)] at H; exact H
            clear H
            have H := H1
            clear H1
            replace H := Option.bind_eq_some_iff.mp H
            obtain ⟨t104, A170, H⟩ := H
            replace H : (some (t104.toList == (a1 ++ t102).toList)) = some r := H
            have A17 := Aside0.mk A170
            clear A170
            obtain rfl := Option.some.inj H
            go_enter Try.func3, Try.ntmps3
            go_wp2_with (first | ((with_reducible refine gate_callee (f := 4) rfl ?_); refine goesL_ (some 19) rfl rfl Try.func4 (by kernel_rfl) rfl #[.int .i64 a3] rfl (by (try simp only [List.map_toArray, List.map_cons, List.map_nil]); first | done | rfl | (simp only [List.length_drop, List.length_take]; rfl)) ?_; (with_reducible refine (impl_FormatNumber.calls a3 t101 _ A7.out).mono ?_); rintro e w18 ⟨rfl, hb⟩; refine ⟨_, rfl, ?_⟩; have n0_ := Aside0.mk (below_step (by repeat (first | (with_reducible first | exact HB.out | apply below_alloc | apply pw_below_drewN | apply below_drew1) | exact HB.out)) hb); clear HB; have HB := n0_; clear n0_; (try clear hb); (try clear hb2); (try clear hk); (try clear hi)) | ((with_reducible refine gate_callee (f := 5) rfl ?_); refine goesL_ (some 24) rfl rfl Try.func5 (by kernel_rfl) rfl #[.int .i64 a3] rfl (by (try simp only [List.map_toArray, List.map_cons, List.map_nil]); first | done | rfl | (simp only [List.length_drop, List.length_take]; rfl)) ?_; (with_reducible refine (impl_FormatBytes.calls a3 t102 _ A9.out).mono ?_); rintro e w19 ⟨rfl, hb⟩; refine ⟨_, rfl, ?_⟩; have n0_ := Aside0.mk (below_step (by repeat (first | (with_reducible first | exact HB.out | apply below_alloc | apply pw_below_drewN | apply below_drew1) | exact HB.out)) hb); clear HB; have HB := n0_; clear n0_; (try clear hb); (try clear hb2); (try clear hk); (try clear hi)) | ((with_reducible refine gate_callee (f := 6) rfl ?_); refine goesL_ (some 38) rfl rfl Try.func6 (by kernel_rfl) rfl #[.int .i64 (wrap64 (Int.tmod a0 3)), .string a1, .int .i64 0, .int .i64 a3] rfl (by (try simp only [List.map_toArray, List.map_cons, List.map_nil]); first | done | rfl | (simp only [List.length_drop, List.length_take]; rfl)) ?_; (with_reducible refine (impl_UnitsPrint.calls (wrap64 (Int.tmod a0 3)) a1 0 a3 t104 _ A17.out).mono ?_); rintro e w20 ⟨rfl, hb⟩; refine ⟨_, rfl, ?_⟩; have n0_ := Aside0.mk (below_step (by repeat (first | (with_reducible first | exact HB.out | apply below_alloc | apply pw_below_drewN | apply below_drew1) | exact HB.out)) hb); clear HB; have HB := n0_; clear n0_; (try clear hb); (try clear hb2); (try clear hk); (try clear hi)))
            go_ret
            exact ⟨by first | rfl | (simp [errW_none, errW_some] <;> rfl) | (simp [*, errW_none, errW_some] <;> rfl), by repeat (first | (with_reducible first | exact HB.out | apply below_alloc | apply pw_below_drewN | apply below_drew1) | exact HB.out)⟩
        · rw [if_neg c10] at H
          exact absurd H (by simp)
      · rw [if_neg c8] at H
        have c8b0 : ((Int.tmod a0 3) == 2) = false := beq_eq_false_iff_ne.mpr c8
        have c8b1 : ((Int.tmod a0 3) != 2) = true := bne_iff_ne.mpr c8
        by_cases c21 : a1.size + t101.size ≤ 9223372036854775807
        · rw [if_pos c21] at H
          have c21b0 := eq_true c21
          have c21b1 : decide (a1.size + t101.size ≤ 9223372036854775807) = true := decide_eq_true c21
          try have c21b2 : (9223372036854775807 < a1.size + t101.size) = False := eq_false (Nat.not_lt.2 c21)
          by_cases c22 : a2 = true
          · subst c22
            have H1 : (if t101.size + a1.size ≤ 9223372036854775807 then ((impl_UnitsPrint.f (wrap64 (Int.tmod a0 3)) a1 1 a3).bind fun t105 => (some (t105.toList == (t101 ++ a1).toList))) else (none)) = some r := by rw [if_pos rfl] at H; exact H
            clear H
            have H := H1
            clear H1
            by_cases c23 : t101.size + a1.size ≤ 9223372036854775807
            · rw [if_pos c23] at H
              have c23b0 := eq_true c23
              have c23b1 : decide (t101.size + a1.size ≤ 9223372036854775807) = true := decide_eq_true c23
              try have c23b2 : (9223372036854775807 < t101.size + a1.size) = False := eq_false (Nat.not_lt.2 c23)
              replace H := Option.bind_eq_some_iff.mp H
              obtain ⟨t105, A240, H⟩ := H
              replace H : (some (t105.toList == (t101 ++ a1).toList)) = some r := H
              have A24 := Aside0.mk A240
              clear A240
              obtain rfl := Option.some.inj H
              go_enter Try.func3, Try.ntmps3
              go_wp2_with (first | ((with_reducible refine gate_callee (f := 4) rfl ?_); refine goesL_ (some 19) rfl rfl Try.func4 (by kernel_rfl) rfl #[.int .i64 a3] rfl (by (try simp only [List.map_toArray, List.map_cons, List.map_nil]); first | done | rfl | (simp only [List.length_drop, List.length_take]; rfl)) ?_; (with_reducible refine (impl_FormatNumber.calls a3 t101 _ A7.out).mono ?_); rintro e w25 ⟨rfl, hb⟩; refine ⟨_, rfl, ?_⟩; have n0_ := Aside0.mk (below_step (by repeat (first | (with_reducible first | exact HB.out | apply below_alloc | apply pw_below_drewN | apply below_drew1) | exact HB.out)) hb); clear HB; have HB := n0_; clear n0_; (try clear hb); (try clear hb2); (try clear hk); (try clear hi)) | ((with_reducible refine gate_callee (f := 6) rfl ?_); refine goesL_ (some 38) rfl rfl Try.func6 (by kernel_rfl) rfl #[.int .i64 (wrap64 (Int.tmod a0 3)), .string a1, .int .i64 1, .int .i64 a3] rfl (by (try simp only [List.map_toArray, List.map_cons, List.map_nil]); first | done | rfl | (simp only [List.length_drop, List.length_take]; rfl)) ?_; (with_reducible refine (impl_UnitsPrint.calls (wrap64 (Int.tmod a0 3)) a1 1 a3 t105 _ A24.out).mono ?_); rintro e w26 ⟨rfl, hb⟩; refine ⟨_, rfl, ?_⟩; have n0_ := Aside0.mk (below_step (by repeat (first | (with_reducible first | exact HB.out | apply below_alloc | apply pw_below_drewN | apply below_drew1) | exact HB.out)) hb); clear HB; have HB := n0_; clear n0_; (try clear hb); (try clear hb2); (try clear hk); (try clear hi)))
              go_ret
              exact ⟨by first | rfl | (simp [errW_none, errW_some] <;> rfl) | (simp [*, errW_none, errW_some] <;> rfl), by repeat (first | (with_reducible first | exact HB.out | apply below_alloc | apply pw_below_drewN | apply below_drew1) | exact HB.out)⟩
            · rw [if_neg c23] at H
              exact absurd H (by simp)
          · replace c22 := Bool.eq_false_iff.mpr c22
            subst c22
            have H1 : ((impl_UnitsPrint.f (wrap64 (Int.tmod a0 3)) a1 0 a3).bind fun t106 => (some (t106.toList == (a1 ++ t101).toList))) = some r := by rw [if_neg (show ¬ (false = true) by decide)] at H; exact H
            clear H
            have H := H1
            clear H1
            replace H := Option.bind_eq_some_iff.mp H
            obtain ⟨t106, A270, H⟩ := H
            replace H : (some (t106.toList == (a1 ++ t101).toList)) = some r := H
            have A27 := Aside0.mk A270
            clear A270
            obtain rfl := Option.some.inj H
            go_enter Try.func3, Try.ntmps3
            go_wp2_with (first | ((with_reducible refine gate_callee (f := 4) rfl ?_); refine goesL_ (some 19) rfl rfl Try.func4 (by kernel_rfl) rfl #[.int .i64 a3] rfl (by (try simp only [List.map_toArray, List.map_cons, List.map_nil]); first | done | rfl | (simp only [List.length_drop, List.length_take]; rfl)) ?_; (with_reducible refine (impl_FormatNumber.calls a3 t101 _ A7.out).mono ?_); rintro e w28 ⟨rfl, hb⟩; refine ⟨_, rfl, ?_⟩; have n0_ := Aside0.mk (below_step (by repeat (first | (with_reducible first | exact HB.out | apply below_alloc | apply pw_below_drewN | apply below_drew1) | exact HB.out)) hb); clear HB; have HB := n0_; clear n0_; (try clear hb); (try clear hb2); (try clear hk); (try clear hi)) | ((with_reducible refine gate_callee (f := 6) rfl ?_); refine goesL_ (some 38) rfl rfl Try.func6 (by kernel_rfl) rfl #[.int .i64 (wrap64 (Int.tmod a0 3)), .string a1, .int .i64 0, .int .i64 a3] rfl (by (try simp only [List.map_toArray, List.map_cons, List.map_nil]); first | done | rfl | (simp only [List.length_drop, List.length_take]; rfl)) ?_; (with_reducible refine (impl_UnitsPrint.calls (wrap64 (Int.tmod a0 3)) a1 0 a3 t106 _ A27.out).mono ?_); rintro e w29 ⟨rfl, hb⟩; refine ⟨_, rfl, ?_⟩; have n0_ := Aside0.mk (below_step (by repeat (first | (with_reducible first | exact HB.out | apply below_alloc | apply pw_below_drewN | apply below_drew1) | exact HB.out)) hb); clear HB; have HB := n0_; clear n0_; (try clear hb); (try clear hb2); (try clear hk); (try clear hi)))
            go_ret
            exact ⟨by first | rfl | (simp [errW_none, errW_some] <;> rfl) | (simp [*, errW_none, errW_some] <;> rfl), by repeat (first | (with_reducible first | exact HB.out | apply below_alloc | apply pw_below_drewN | apply below_drew1) | exact HB.out)⟩
        · rw [if_neg c21] at H
          exact absurd H (by simp)

end Go.Proofs.Ytgemoagbefdemaa.GFnUnitsPrint
