-- printed by a program of this session (gprint.py) out of the translation; Lean checks it
import Derived.Test.YtemcjnminnnefaaDoorGFnListResetx0
import Derived.Test.YtemcjnminnnefaaDoorGFnListResetx1
import Derived.Test.YtemcjnminnnefaaDoorGivenLst
namespace Go.Proofs.YtemcjnminnnefaaDoor.GFnListReset
open Go.RowKit Go.Proofs.YtemcjnminnnefaaDoorW.PrintWords Go.Proofs.YtemcjnminnnefaaDoorW.PrintLast Go.Proofs.YtemcjnminnnefaaDoor.GivenLst Go.Proofs.YtemcjnminnnefaaDoorW.PrintMore
attribute [local go_sem] max2_int min2_int max_two min_two max_three min_three max_four min_four   -- for this text's walks alone
set_option linter.unusedVariables false
set_option linter.unusedSimpArgs false

/-! ### laws_FnListReset: function 3 -/
mutual
def laws_FnListReset.j0 : Nat → List (S33) → List (S33) → Bool → Option (Bool)
  | 0, _, _, _ => none
  | k + 1, x0, x1, x13 => if x13 = true then (some true) else ((spec_LsRight.f k x0).bind fun t123 => (if t123 = true then ((spec_LsRight.f k x1).bind fun t124 => (laws_FnListReset.j1 k x0 x1 (!t124))) else (laws_FnListReset.j1 k x0 x1 true)))
def laws_FnListReset.j1 : Nat → List (S33) → List (S33) → Bool → Option (Bool)
  | 0, _, _, _ => none
  | k + 1, x0, x1, x21 => if x21 = true then (some true) else ((spec_LsSteps.f k x0).bind fun t125 => (if t125.length < 2932031007402 then ((some (t125 ++ [(⟨5, (⟨#[]⟩ : ByteArray), ([] : List ByteArray)⟩ : S28)] : List (S28))).bind fun y128 => ((spec_LsSteps.f k x1).bind fun t131 => (if y128.length + t131.length < 2932031007402 then ((some (y128 ++ t131 : List (S28))).bind fun y134 => ((impl_ListPlain.f y134).bind fun t137 => ((spec_LsSteps.f k x1).bind fun t138 => ((impl_ListPlain.f t138).bind fun t141 => (if t137.toList = t141.toList then ((impl_ListLength.f y134).bind fun t142 => (some (t142 == (x1.length : Int)))) else (some false)))))) else (none)))) else (none)))
end
def laws_FnListReset.f (k : Nat) (l0 : List (S33)) (l1 : List (S33)) : Option (Bool) := (laws_zzFits1.f k l0).bind fun t121 => (if t121 = true then ((laws_zzFits1.f k l1).bind fun t122 => (laws_FnListReset.j0 k l0 l1 (!t122))) else (laws_FnListReset.j0 k l0 l1 true))
theorem laws_FnListReset.mono_l : ∀ k, (∀ y0 y1 y2, LeO (laws_FnListReset.j0 k y0 y1 y2) (laws_FnListReset.j0 (k + 1) y0 y1 y2)) ∧ (∀ y0 y1 y2, LeO (laws_FnListReset.j1 k y0 y1 y2) (laws_FnListReset.j1 (k + 1) y0 y1 y2))
  | 0 => ⟨fun _ _ _ r h => by simp [laws_FnListReset.j0] at h, fun _ _ _ r h => by simp [laws_FnListReset.j1] at h⟩
  | k + 1 => by
    obtain ⟨ih0, ih1⟩ := laws_FnListReset.mono_l k
    refine ⟨?_, ?_⟩
    · intro y0 y1 y2
      unfold laws_FnListReset.j0
      repeat' first
      | (with_reducible exact ih0 _ _ _)
      | (with_reducible exact ih1 _ _ _)
      | (with_reducible exact laws_zzFits1.mono _ _)
      | (with_reducible exact spec_LsRight.mono _ _)
      | (with_reducible exact spec_LsSteps.mono _ _)
      | (with_reducible exact LeO.refl _)
      | (with_reducible exact LeO.none _)
      | (with_reducible refine LeO.ite ?_ ?_)
      | (with_reducible refine LeO.bind ?_ (fun _ => ?_))
      | exact ih0 _ _ _
      | exact ih1 _ _ _
      | exact laws_zzFits1.mono _ _
      | exact spec_LsRight.mono _ _
      | exact spec_LsSteps.mono _ _
      | exact LeO.none _
      | refine LeO.ite ?_ ?_
      | refine LeO.bind ?_ (fun _ => ?_)
    · intro y0 y1 y2
      unfold laws_FnListReset.j1
      repeat' first
      | (with_reducible exact ih0 _ _ _)
      | (with_reducible exact ih1 _ _ _)
      | (with_reducible exact laws_zzFits1.mono _ _)
      | (with_reducible exact spec_LsRight.mono _ _)
      | (with_reducible exact spec_LsSteps.mono _ _)
      | (with_reducible exact LeO.refl _)
      | (with_reducible exact LeO.none _)
      | (with_reducible refine LeO.ite ?_ ?_)
      | (with_reducible refine LeO.bind ?_ (fun _ => ?_))
      | exact ih0 _ _ _
      | exact ih1 _ _ _
      | exact laws_zzFits1.mono _ _
      | exact spec_LsRight.mono _ _
      | exact spec_LsSteps.mono _ _
      | exact LeO.none _
      | refine LeO.ite ?_ ?_
      | refine LeO.bind ?_ (fun _ => ?_)
theorem laws_FnListReset.mono : ∀ a0 a1 k, LeO (laws_FnListReset.f k a0 a1) (laws_FnListReset.f (k + 1) a0 a1) := by
  intro a0 a1 k
  obtain ⟨ih0, ih1⟩ := laws_FnListReset.mono_l k
  unfold laws_FnListReset.f
  repeat' first
      | (with_reducible exact ih0 _ _ _)
      | (with_reducible exact ih1 _ _ _)
      | (with_reducible exact laws_zzFits1.mono _ _)
      | (with_reducible exact spec_LsRight.mono _ _)
      | (with_reducible exact spec_LsSteps.mono _ _)
      | (with_reducible exact LeO.refl _)
      | (with_reducible exact LeO.none _)
      | (with_reducible refine LeO.ite ?_ ?_)
      | (with_reducible refine LeO.bind ?_ (fun _ => ?_))
      | exact ih0 _ _ _
      | exact ih1 _ _ _
      | exact laws_zzFits1.mono _ _
      | exact spec_LsRight.mono _ _
      | exact spec_LsSteps.mono _ _
      | exact LeO.none _
      | refine LeO.ite ?_ ?_
      | refine LeO.bind ?_ (fun _ => ?_)
set_option maxHeartbeats 8000000 in
set_option maxRecDepth 100000 in
theorem laws_FnListReset.calls (k : Nat) (A0 : Option Addr) (c0 : Nat) (l0 : List (S33)) (A1 : Option Addr) (c1 : Nat) (l1 : List (S33)) (r : Bool) (w : World) (hr0 : Kd.C k33 w A0 l0.length l0) (hc0 : l0.length ≤ c0) (hr1 : Kd.C k33 w A1 l1.length l1) (hc1 : l1.length ≤ c1) (h : laws_FnListReset.f k l0 l1 = some r) :
    Calls Tryd.prog 3 #[.slice A0 l0.length c0, .slice A1 l1.length c1] w fun e w' => e = .returned (.bool r) ∧ Below w.heap.size w w' := by
  have hu28 := Tryd.underlying28
  have HR0 := Aside0.mk hr0
  have HC0 := Aside0.mk hc0
  clear hr0 hc0
  have HR1 := Aside0.mk hr1
  have HC1 := Aside0.mk hc1
  clear hr1 hc1
  have HB := Aside0.mk (Below.refl w.heap.size w)
  have H : ((laws_zzFits1.f k l0).bind fun t121 => (if t121 = true then ((laws_zzFits1.f k l1).bind fun t122 => (laws_FnListReset.j0 k l0 l1 (!t122))) else (laws_FnListReset.j0 k l0 l1 true))) = some r := h
  clear h
  have HC3 := Aside0.mk H
  clear H
  go_enter Tryd.func3, Tryd.ntmps3
  go_upto_region 1 with (fail)
  go_cut [13] (fun v13 wc => ∃ (kq : Nat) (x13_2 : Bool), v13 = .bool x13_2 ∧ Aside0 (laws_FnListReset.j0 kq l0 l1 x13_2 = some r) ∧ Aside0 (kq ≤ k) ∧ Aside0 (Below w.heap.size w wc))
  case first =>
    have H := HC3.out
    clear HC3
    replace H := Option.bind_eq_some_iff.mp H
    obtain ⟨t121, A40, H⟩ := H
    replace H : (if t121 = true then ((laws_zzFits1.f k l1).bind fun t122 => (laws_FnListReset.j0 k l0 l1 (!t122))) else (laws_FnListReset.j0 k l0 l1 true)) = some r := H
    have A4 := Aside0.mk A40
    clear A40
    by_cases c5 : t121 = true
    · subst c5
      have H1 : ((laws_zzFits1.f k l1).bind fun t122 => (laws_FnListReset.j0 k l0 l1 (!t122))) = some r := by rw [if_pos rfl] at H; exact H
      clear H
      have H := H1
      clear H1
      replace H := Option.bind_eq_some_iff.mp H
      obtain ⟨t122, A60, H⟩ := H
      replace H : (laws_FnListReset.j0 k l0 l1 (!t122)) = some r := H
      have A6 := Aside0.mk A60
      clear A60
      have H' := Aside0.mk H
      clear H
      go_wp2_with (first | ((with_reducible refine gate_callee (f := 4) rfl ?_); refine goesL_ (some 7) rfl rfl Tryd.func4 (by kernel_rfl) rfl #[.slice A0 l0.length c0] rfl (by (try simp only [List.map_toArray, List.map_cons, List.map_nil]); first | done | rfl | (simp only [List.length_drop, List.length_take]; rfl)) ?_; (with_reducible refine (laws_zzFits1.calls k _ _ l0 true _ ?side1 ?side2 A4.out).mono ?_); (case side1 => repeat (first | exact (Kd.C_below HR0.out HB.out) | (with_reducible refine Kd.C_alloc ?_ _) | (with_reducible refine Kd.C_drewN ?_ _) | (with_reducible refine Kd.C_drew ?_))); (case side2 => exact HC0.out); rintro e w7 ⟨rfl, hb⟩; refine ⟨_, rfl, ?_⟩; have n0_ := Aside0.mk (below_step (by repeat (first | (with_reducible first | exact HB.out | apply below_alloc | apply pw_below_drewN | apply below_drew1) | exact HB.out)) hb); clear HB; have HB := n0_; clear n0_; (try clear hb); (try clear hb2); (try clear hk); (try clear hi)) | (go_at_call 4; (with_reducible refine (laws_zzFits1.calls k _ _ l1 t122 _ ?side1 ?side2 A6.out).mono ?_); (case side1 => repeat (first | exact (Kd.C_below HR1.out HB.out) | (with_reducible refine Kd.C_alloc ?_ _) | (with_reducible refine Kd.C_drewN ?_ _) | (with_reducible refine Kd.C_drew ?_))); (case side2 => exact HC1.out); rintro e w8 ⟨rfl, hb⟩; have n0_ := Aside0.mk (below_step (by repeat (first | (with_reducible first | exact HB.out | apply below_alloc | apply pw_below_drewN | apply below_drew1) | exact HB.out)) hb); clear HB; have HB := n0_; clear n0_; (try clear hb); (try clear hb2); (try clear hk); (try clear hi)))
      go_meet
      case rel => exact ⟨_, (!t122), (by first | rfl | (simp; done) | (simp [*]; done)), H', ⟨by first | omega | exact Nat.le_refl _⟩, ⟨by repeat (first | (with_reducible first | exact HB.out | apply below_alloc | apply pw_below_drewN | apply below_drew1) | exact HB.out)⟩⟩
    · replace c5 := Bool.eq_false_iff.mpr c5
      subst c5
      have H1 : (laws_FnListReset.j0 k l0 l1 true) = some r := by rw [if_neg (show ¬ (false = true) by decide)] at H; exact H
      clear H
      have H := H1
      clear H1
      have H' := Aside0.mk H
      clear H
      go_wp2_with (first | ((with_reducible refine gate_callee (f := 4) rfl ?_); refine goesL_ (some 7) rfl rfl Tryd.func4 (by kernel_rfl) rfl #[.slice A0 l0.length c0] rfl (by (try simp only [List.map_toArray, List.map_cons, List.map_nil]); first | done | rfl | (simp only [List.length_drop, List.length_take]; rfl)) ?_; (with_reducible refine (laws_zzFits1.calls k _ _ l0 false _ ?side1 ?side2 A4.out).mono ?_); (case side1 => repeat (first | exact (Kd.C_below HR0.out HB.out) | (with_reducible refine Kd.C_alloc ?_ _) | (with_reducible refine Kd.C_drewN ?_ _) | (with_reducible refine Kd.C_drew ?_))); (case side2 => exact HC0.out); rintro e w9 ⟨rfl, hb⟩; refine ⟨_, rfl, ?_⟩; have n0_ := Aside0.mk (below_step (by repeat (first | (with_reducible first | exact HB.out | apply below_alloc | apply pw_below_drewN | apply below_drew1) | exact HB.out)) hb); clear HB; have HB := n0_; clear n0_; (try clear hb); (try clear hb2); (try clear hk); (try clear hi)))
      go_meet
      case rel => exact ⟨_, (true), (by first | rfl | (simp; done) | (simp [*]; done)), H', ⟨by first | omega | exact Nat.le_refl _⟩, ⟨by repeat (first | (with_reducible first | exact HB.out | apply below_alloc | apply pw_below_drewN | apply below_drew1) | exact HB.out)⟩⟩
  case rest =>
    clear HC3
    try clear c1
    try clear p2
    try clear c3
    try clear c4
    try clear c5
    obtain ⟨kq, x13_2, rfl, HA, HJ2, HB⟩ := hcut
    cases kq with
    | zero => exact absurd HA.out (by simp [laws_FnListReset.j0])
    | succ kj2 =>
      have H := HA.out
      clear HA
      simp only [laws_FnListReset.j0] at H
      by_cases c10 : x13_2 = true
      · subst c10
        have H1 : (some true) = some r := by rw [if_pos rfl] at H; exact H
        clear H
        have H := H1
        clear H1
        obtain rfl := Option.some.inj H
        go_wp2
        go_ret
        exact ⟨by first | rfl | (simp [errW_none, errW_some] <;> rfl) | (simp [*, errW_none, errW_some] <;> rfl), by repeat (first | (with_reducible first | exact HB.out | apply below_alloc | apply pw_below_drewN | apply below_drew1) | exact HB.out)⟩
      · replace c10 := Bool.eq_false_iff.mpr c10
        subst c10
        have H1 : ((spec_LsRight.f kj2 l0).bind fun t123 => (if t123 = true then ((spec_LsRight.f kj2 l1).bind fun t124 => (laws_FnListReset.j1 kj2 l0 l1 (!t124))) else (laws_FnListReset.j1 kj2 l0 l1 true))) = some r := by rw [if_neg (show ¬ (false = true) by decide)] at H; exact H
        clear H
        have H := H1
        clear H1
        have HC11 := Aside0.mk H
        clear H
        go_upto_region 3 with (fail)
        go_cut [21] (fun v21 wc => ∃ (kq : Nat) (x21_10 : Bool), v21 = .bool x21_10 ∧ Aside0 (laws_FnListReset.j1 kq l0 l1 x21_10 = some r) ∧ Aside0 (kq ≤ kj2) ∧ Aside0 (Below w.heap.size w wc))
        case first =>
          have H := HC11.out
          clear HC11
          replace H := Option.bind_eq_some_iff.mp H
          obtain ⟨t123, A120, H⟩ := H
          replace H : (if t123 = true then ((spec_LsRight.f kj2 l1).bind fun t124 => (laws_FnListReset.j1 kj2 l0 l1 (!t124))) else (laws_FnListReset.j1 kj2 l0 l1 true)) = some r := H
          have A12 := Aside0.mk A120
          clear A120
          by_cases c13 : t123 = true
          · subst c13
            have H1 : ((spec_LsRight.f kj2 l1).bind fun t124 => (laws_FnListReset.j1 kj2 l0 l1 (!t124))) = some r := by rw [if_pos rfl] at H; exact H
            clear H
            have H := H1
            clear H1
            replace H := Option.bind_eq_some_iff.mp H
            obtain ⟨t124, A140, H⟩ := H
            replace H : (laws_FnListReset.j1 kj2 l0 l1 (!t124)) = some r := H
            have A14 := Aside0.mk A140
            clear A140
            have H' := Aside0.mk H
            clear H
            go_wp2_with (first | ((with_reducible refine gate_callee (f := 5) rfl ?_); refine goesL_ (some 15) rfl rfl Tryd.func5 (by kernel_rfl) rfl #[.slice A0 l0.length c0] rfl (by (try simp only [List.map_toArray, List.map_cons, List.map_nil]); first | done | rfl | (simp only [List.length_drop, List.length_take]; rfl)) ?_; (with_reducible refine (spec_LsRight.calls kj2 _ _ l0 true _ ?side1 ?side2 A12.out).mono ?_); (case side1 => repeat (first | exact (Kd.C_below HR0.out HB.out) | (with_reducible refine Kd.C_alloc ?_ _) | (with_reducible refine Kd.C_drewN ?_ _) | (with_reducible refine Kd.C_drew ?_))); (case side2 => exact HC0.out); rintro e w15 ⟨rfl, hb⟩; refine ⟨_, rfl, ?_⟩; have n0_ := Aside0.mk (below_step (by repeat (first | (with_reducible first | exact HB.out | apply below_alloc | apply pw_below_drewN | apply below_drew1) | exact HB.out)) hb); clear HB; have HB := n0_; clear n0_; (try clear hb); (try clear hb2); (try clear hk); (try clear hi)) | (go_at_call 5; (with_reducible refine (spec_LsRight.calls kj2 _ _ l1 t124 _ ?side1 ?side2 A14.out).mono ?_); (case side1 => repeat (first | exact (Kd.C_below HR1.out HB.out) | (with_reducible refine Kd.C_alloc ?_ _) | (with_reducible refine Kd.C_drewN ?_ _) | (with_reducible refine Kd.C_drew ?_))); (case side2 => exact HC1.out); rintro e w16 ⟨rfl, hb⟩; have n0_ := Aside0.mk (below_step (by repeat (first | (with_reducible first | exact HB.out | apply below_alloc | apply pw_below_drewN | apply below_drew1) | exact HB.out)) hb); clear HB; have HB := n0_; clear n0_; (try clear hb); (try clear hb2); (try clear hk); (try clear hi)))
            go_meet
            case rel => exact ⟨_, (!t124), (by first | rfl | (simp; done) | (simp [*]; done)), H', ⟨by have := HJ2.out; first | omega | exact Nat.le_refl _⟩, ⟨by repeat (first | (with_reducible first | exact HB.out | apply below_alloc | apply pw_below_drewN | apply below_drew1) | exact HB.out)⟩⟩
          · replace c13 := Bool.eq_false_iff.mpr c13
            subst c13
            have H1 : (laws_FnListReset.j1 kj2 l0 l1 true) = some r := by rw [if_neg (show ¬ (false = true) by decide)] at H; exact H
            clear H
            have H := H1
            clear H1
            have H' := Aside0.mk H
            clear H
            go_wp2_with (first | ((with_reducible refine gate_callee (f := 5) rfl ?_); refine goesL_ (some 15) rfl rfl Tryd.func5 (by kernel_rfl) rfl #[.slice A0 l0.length c0] rfl (by (try simp only [List.map_toArray, List.map_cons, List.map_nil]); first | done | rfl | (simp only [List.length_drop, List.length_take]; rfl)) ?_; (with_reducible refine (spec_LsRight.calls kj2 _ _ l0 false _ ?side1 ?side2 A12.out).mono ?_); (case side1 => repeat (first | exact (Kd.C_below HR0.out HB.out) | (with_reducible refine Kd.C_alloc ?_ _) | (with_reducible refine Kd.C_drewN ?_ _) | (with_reducible refine Kd.C_drew ?_))); (case side2 => exact HC0.out); rintro e w17 ⟨rfl, hb⟩; refine ⟨_, rfl, ?_⟩; have n0_ := Aside0.mk (below_step (by repeat (first | (with_reducible first | exact HB.out | apply below_alloc | apply pw_below_drewN | apply below_drew1) | exact HB.out)) hb); clear HB; have HB := n0_; clear n0_; (try clear hb); (try clear hb2); (try clear hk); (try clear hi)))
            go_meet
            case rel => exact ⟨_, (true), (by first | rfl | (simp; done) | (simp [*]; done)), H', ⟨by have := HJ2.out; first | omega | exact Nat.le_refl _⟩, ⟨by repeat (first | (with_reducible first | exact HB.out | apply below_alloc | apply pw_below_drewN | apply below_drew1) | exact HB.out)⟩⟩
        case rest =>
          clear HC11
          try clear c1
          try clear p2
          try clear c3
          try clear c4
          try clear c5
          try clear c10
          try clear c13
          try clear p2
          obtain ⟨kq, x21_10, rfl, HA, HJ10, HB⟩ := hcut
          cases kq with
          | zero => exact absurd HA.out (by simp [laws_FnListReset.j1])
          | succ kj10 =>
            have H := HA.out
            clear HA
            simp only [laws_FnListReset.j1] at H
            by_cases c18 : x21_10 = true
            · subst c18
              have H1 : (some true) = some r := by rw [if_pos rfl] at H; exact H
              clear H
              have H := H1
              clear H1
              obtain rfl := Option.some.inj H
              go_wp2
              go_ret
              exact ⟨by first | rfl | (simp [errW_none, errW_some] <;> rfl) | (simp [*, errW_none, errW_some] <;> rfl), by repeat (first | (with_reducible first | exact HB.out | apply below_alloc | apply pw_below_drewN | apply below_drew1) | exact HB.out)⟩
            · replace c18 := Bool.eq_false_iff.mpr c18
              subst c18
              have H1 : ((spec_LsSteps.f kj10 l0).bind fun t125 => (if t125.length < 2932031007402 then ((some (t125 ++ [(⟨5, (⟨#[]⟩ : ByteArray), ([] : List ByteArray)⟩ : S28)] : List (S28))).bind fun y128 => ((spec_LsSteps.f kj10 l1).bind fun t131 => (if y128.length + t131.length < 2932031007402 then ((some (y128 ++ t131 : List (S28))).bind fun y134 => ((impl_ListPlain.f y134).bind fun t137 => ((spec_LsSteps.f kj10 l1).bind fun t138 => ((impl_ListPlain.f t138).bind fun t141 => (if t137.toList = t141.toList then ((impl_ListLength.f y134).bind fun t142 => (some (t142 == (l1.length : Int)))) else (some false)))))) else (none)))) else (none))) = some r := by rw [if_neg (show ¬ (false = true) by decide)] at H; exact H
              clear H
              have H := H1
              clear H1
              replace H := Option.bind_eq_some_iff.mp H
              obtain ⟨t125, A190, H⟩ := H
              replace H : (if t125.length < 2932031007402 then ((some (t125 ++ [(⟨5, (⟨#[]⟩ : ByteArray), ([] : List ByteArray)⟩ : S28)] : List (S28))).bind fun y128 => ((spec_LsSteps.f kj10 l1).bind fun t131 => (if y128.length + t131.length < 2932031007402 then ((some (y128 ++ t131 : List (S28))).bind fun y134 => ((impl_ListPlain.f y134).bind fun t137 => ((spec_LsSteps.f kj10 l1).bind fun t138 => ((impl_ListPlain.f t138).bind fun t141 => (if t137.toList = t141.toList then ((impl_ListLength.f y134).bind fun t142 => (some (t142 == (l1.length : Int)))) else (some false)))))) else (none)))) else (none)) = some r := H
              have A19 := Aside0.mk A190
              clear A190
              by_cases c20 : t125.length < 2932031007402
              · rw [if_pos c20] at H
                have LMc20 := Aside0.mk c20
                clear c20
                obtain ⟨y128, hy128⟩ : ∃ y_ : List (S28), y_ = (t125 ++ [(⟨5, (⟨#[]⟩ : ByteArray), ([] : List ByteArray)⟩ : S28)]) := ⟨_, rfl⟩
                replace H : ((spec_LsSteps.f kj10 l1).bind fun t131 => (if y128.length + t131.length < 2932031007402 then ((some (y128 ++ t131 : List (S28))).bind fun y134 => ((impl_ListPlain.f y134).bind fun t137 => ((spec_LsSteps.f kj10 l1).bind fun t138 => ((impl_ListPlain.f t138).bind fun t141 => (if t137.toList = t141.toList then ((impl_ListLength.f y134).bind fun t142 => (some (t142 == (l1.length : Int)))) else (some false)))))) else (none))) = some r := by first | (rw [hy128]; with_reducible exact H) | (have H2_ := (Option.bind_some _ _).symm.trans H; rw [hy128]; with_reducible exact H2_) | (have H2_ := (Option.bind_some _ _).symm.trans H; with_reducible exact H2_) | with_reducible exact H | (rw [hy128]; exact H) | exact H
                have Ny128 := Aside0.mk hy128
                clear hy128
                replace H := Option.bind_eq_some_iff.mp H
                obtain ⟨t131, A210, H⟩ := H
                replace H : (if y128.length + t131.length < 2932031007402 then ((some (y128 ++ t131 : List (S28))).bind fun y134 => ((impl_ListPlain.f y134).bind fun t137 => ((spec_LsSteps.f kj10 l1).bind fun t138 => ((impl_ListPlain.f t138).bind fun t141 => (if t137.toList = t141.toList then ((impl_ListLength.f y134).bind fun t142 => (some (t142 == (l1.length : Int)))) else (some false)))))) else (none)) = some r := H
                have A21 := Aside0.mk A210
                clear A210
                by_cases c22 : y128.length + t131.length < 2932031007402
                · rw [if_pos c22] at H
                  have LMc22 := Aside0.mk c22
                  clear c22
                  obtain ⟨y134, hy134⟩ : ∃ y_ : List (S28), y_ = (y128 ++ t131) := ⟨_, rfl⟩
                  replace H : ((impl_ListPlain.f y134).bind fun t137 => ((spec_LsSteps.f kj10 l1).bind fun t138 => ((impl_ListPlain.f t138).bind fun t141 => (if t137.toList = t141.toList then ((impl_ListLength.f y134).bind fun t142 => (some (t142 == (l1.length : Int)))) else (some false))))) = some r := by first | (rw [hy134]; with_reducible exact H) | (have H2_ := (Option.bind_some _ _).symm.trans H; rw [hy134]; with_reducible exact H2_) | (have H2_ := (Option.bind_some _ _).symm.trans H; with_reducible exact H2_) | with_reducible exact H | (rw [hy134]; exact H) | exact H
                  have Ny134 := Aside0.mk hy134
                  clear hy134
                  replace H := Option.bind_eq_some_iff.mp H
                  obtain ⟨t137, A230, H⟩ := H
                  replace H : ((spec_LsSteps.f kj10 l1).bind fun t138 => ((impl_ListPlain.f t138).bind fun t141 => (if t137.toList = t141.toList then ((impl_ListLength.f y134).bind fun t142 => (some (t142 == (l1.length : Int)))) else (some false)))) = some r := H
                  have A23 := Aside0.mk A230
                  clear A230
                  replace H := Option.bind_eq_some_iff.mp H
                  obtain ⟨t138, A240, H⟩ := H
                  replace H : ((impl_ListPlain.f t138).bind fun t141 => (if t137.toList = t141.toList then ((impl_ListLength.f y134).bind fun t142 => (some (t142 == (l1.length : Int)))) else (some false))) = some r := H
                  have A24 := Aside0.mk A240
                  clear A240
                  replace H := Option.bind_eq_some_iff.mp H
                  obtain ⟨t141, A250, H⟩ := H
                  replace H : (if t137.toList = t141.toList then ((impl_ListLength.f y134).bind fun t142 => (some (t142 == (l1.length : Int)))) else (some false)) = some r := H
                  have A25 := Aside0.mk A250
                  clear A250
                  by_cases c26 : t137.toList = t141.toList
                  · rw [if_pos c26] at H
                    have c26b0 : (t137.toList == t141.toList) = true := beq_iff_eq.mpr c26
                    have c26b1 : (t137.toList != t141.toList) = false := bne_eq_false_iff_eq.mpr c26
                    clear c26
                    replace H := Option.bind_eq_some_iff.mp H
                    obtain ⟨t142, A270, H⟩ := H
                    replace H : (some (t142 == (l1.length : Int))) = some r := H
                    have A27 := Aside0.mk A270
                    clear A270
                    obtain rfl := Option.some.inj H
                    go_wp2_with (first | ((with_reducible refine gate_callee (f := 6) rfl ?_); refine goesL_ (some 23) rfl rfl Tryd.func6 (by kernel_rfl) rfl #[.slice A0 l0.length c0] rfl (by (try simp only [List.map_toArray, List.map_cons, List.map_nil]); first | done | rfl | (simp only [List.length_drop, List.length_take]; rfl)) ?_; (with_reducible refine (spec_LsSteps.calls kj10 _ _ l0 t125 _ ?side1 ?side2 A19.out).mono ?_); (case side1 => repeat (first | exact (Kd.C_below HR0.out HB.out) | (with_reducible refine Kd.C_alloc ?_ _) | (with_reducible refine Kd.C_drewN ?_ _) | (with_reducible refine Kd.C_drew ?_))); (case side2 => exact HC0.out); rintro e w28 ⟨v126, rfl, ho0, hb⟩; refine ⟨_, rfl, ?_⟩; have n0_ := Aside0.mk (Kd.N_lower (Kd.N_mono (ok' := fun k_ => True) (Kd.S_N (Kd.S_bound ho0)) (fun k_ hk_ => trivial)) (below_size (by repeat (first | (with_reducible first | exact HB.out | apply below_alloc | apply pw_below_drewN | apply below_drew1) | exact HB.out)))); have n1_ := Aside0.mk (below_step (by repeat (first | (with_reducible first | exact HB.out | apply below_alloc | apply pw_below_drewN | apply below_drew1) | exact HB.out)) hb); clear HB; have HO127 := n0_; have HB := n1_; clear n0_ n1_; (try clear hb); (try clear hb2); (try clear hk); (try clear hi); (try clear ho0)) | ((with_reducible refine gate_builtin (b := .append) (xs := #[.tmp 23, .tmp 25]) rfl ?_); (try (refine gate_guard (by rfl) ?_; dsimp only)); at_builtin; refine Kd.N_append k28 (w0 := w) w.heap.size rfl (.tmp 23) (.tmp 25) 24 28 (.agg #[(.int .i64 0), (.string ⟨#[]⟩), (.slice none 0 0)]) 48 rfl Tryd.underlying24 info28 rfl (by decide) (by omega) v126 t125 (⟨5, (⟨#[]⟩ : ByteArray), ([] : List ByteArray)⟩ : S28) [.int .i64 5, .string (⟨#[]⟩ : ByteArray), .slice none 0 0] (fun _ => True) (fun k_ => ((fun _ => True)) k_ ∧ some k_ ≠ (v126 : Value).ownBlock) rfl rfl ?aP (fun _ hk => hk) ?aF ?aO ?aB ?aS ?aL ?_; (case aP => exact (k28_mkF _ _ (⟨5, (⟨#[]⟩ : ByteArray), ([] : List ByteArray)⟩ : S28) (Nat.le_refl _) (Kd.F_nil _ _ _))); (case aB => exact (by repeat (first | (with_reducible first | exact HB.out | apply below_alloc | apply pw_below_drewN | apply below_drew1) | exact HB.out))); (case aF => exact (fun _ _ => trivial)); (case aO => exact (by (with_reducible repeat (first | apply Kd.N_alloc | apply Kd.N_drewN | apply Kd.N_drew)); exact HO127.out)); (case aS => exact (below_size (by repeat (first | (with_reducible first | exact HB.out | apply below_alloc | apply pw_below_drewN | apply below_drew1) | exact HB.out)))); (case aL => have := LMc20.out; omega); intro v129 w29 ho hb hg hat; rw [← Ny128.out] at ho; have n0_ := Aside0.mk (hb); have n1_ := Aside0.mk (ho); clear HB; clear HO127; have HB := n0_; have HO130 := n1_; clear n0_ n1_; clear ho hb hg hat) | ((with_reducible refine gate_callee (f := 6) rfl ?_); refine goesL_ (some 28) rfl rfl Tryd.func6 (by kernel_rfl) rfl #[.slice A1 l1.length c1] rfl (by (try simp only [List.map_toArray, List.map_cons, List.map_nil]); first | done | rfl | (simp only [List.length_drop, List.length_take]; rfl)) ?_; (with_reducible refine (spec_LsSteps.calls kj10 _ _ l1 t131 _ ?side1 ?side2 A21.out).mono ?_); (case side1 => repeat (first | exact (Kd.C_below HR1.out HB.out) | (with_reducible refine Kd.C_alloc ?_ _) | (with_reducible refine Kd.C_drewN ?_ _) | (with_reducible refine Kd.C_drew ?_))); (case side2 => exact HC1.out); rintro e w30 ⟨v132, rfl, ho0, hb⟩; refine ⟨_, rfl, ?_⟩; have n0_ := Aside0.mk (Kd.N_elder' (by (with_reducible repeat (first | apply Kd.N_alloc | apply Kd.N_drewN | apply Kd.N_drew)); exact HO130.out) (Kd.N_base (Kd.S_N ho0)) hb); have n1_ := Aside0.mk (Kd.N_lower (Kd.N_mono (ok' := fun k_ => some k_ ≠ (v129 : Value).ownBlock) (Kd.S_N (Kd.S_bound ho0)) (fun k_ hk_ => (Kd.fresh' (Kd.N_lt (by (with_reducible repeat (first | apply Kd.N_alloc | apply Kd.N_drewN | apply Kd.N_drew)); exact HO130.out)) k_ hk_.2.1))) (below_size (by repeat (first | (with_reducible first | exact HB.out | apply below_alloc | apply pw_below_drewN | apply below_drew1) | exact HB.out)))); have n2_ := Aside0.mk (below_step (by repeat (first | (with_reducible first | exact HB.out | apply below_alloc | apply pw_below_drewN | apply below_drew1) | exact HB.out)) hb); clear HO130; clear HB; have HO130 := n0_; have HO133 := n1_; have HB := n2_; clear n0_ n1_ n2_; (try clear hb); (try clear hb2); (try clear hk); (try clear hi); (try clear ho0); obtain ⟨Ao32, co32, eo32⟩ := Kd.N_slice HO133.out; subst eo32) | ((with_reducible refine gate_builtin (b := .append) (xs := #[.tmp 26, .tmp 28]) rfl ?_); (try (refine gate_guard (by rfl) ?_; dsimp only)); at_builtin; refine Kd.N_append_rows k28 (w0 := w) w.heap.size rfl (.tmp 26) (.tmp 28) 24 28 (.agg #[(.int .i64 0), (.string ⟨#[]⟩), (.slice none 0 0)]) 48 rfl Tryd.underlying24 info28 rfl (by decide) (by omega) v129 y128 t131 _ _ _ (fun _ => True) (fun k_ => ((fun _ => True)) k_ ∧ some k_ ≠ (v129 : Value).ownBlock) rfl rfl ?aO ?aR (fun _ hk => hk) ?aF ?aB ?aS ?aL ?_; (case aR => exact (by skip; exact Kd.N_F (Kd.N_mono (ok' := (fun k_ => ((fun _ => True)) k_ ∧ some k_ ≠ (v129 : Value).ownBlock)) (HO133.out) (fun k_ hk => ⟨trivial, hk⟩)))); (case aB => exact (by repeat (first | (with_reducible first | exact HB.out | apply below_alloc | apply pw_below_drewN | apply below_drew1) | exact HB.out))); (case aF => exact (fun _ _ => trivial)); (case aO => exact (by (with_reducible repeat (first | apply Kd.N_alloc | apply Kd.N_drewN | apply Kd.N_drew)); exact Kd.N_mono HO130.out (fun _ hk => trivial))); (case aS => exact (below_size (by repeat (first | (with_reducible first | exact HB.out | apply below_alloc | apply pw_below_drewN | apply below_drew1) | exact HB.out)))); (case aL => have := LMc22.out; omega); intro v135 w31 ho hb hg hat; rw [← Ny134.out] at ho; have n0_ := Aside0.mk (Kd.N_afterv (ok := (fun _ => True)) (by (with_reducible repeat (first | apply Kd.N_alloc | apply Kd.N_drewN | apply Kd.N_drew)); exact Kd.N_mono HO133.out (fun _ hk => ⟨trivial, hk⟩)) hg hat); have n1_ := Aside0.mk (hb); have n2_ := Aside0.mk (ho); clear HO133; clear HB; clear HO130; have HO133 := n0_; have HB := n1_; have HO136 := n2_; clear n0_ n1_ n2_; clear ho hb hg hat; obtain ⟨Ao33, co33, eo33⟩ := Kd.N_slice HO136.out; subst eo33) | ((with_reducible refine gate_callee (f := 7) rfl ?_); refine goesL_ (some 31) rfl rfl Tryd.func7 (by kernel_rfl) rfl #[.slice Ao33 y134.length co33] rfl (by (try simp only [List.map_toArray, List.map_cons, List.map_nil]); first | done | rfl | (simp only [List.length_drop, List.length_take]; rfl)) ?_; (with_reducible refine (impl_ListPlain.calls _ _ y134 t137 _ ?side1 ?side2 A23.out).mono ?_); (case side1 => repeat (first | exact (Kd.N_reads' HO136.out).2.2 | (with_reducible refine Kd.C_alloc ?_ _) | (with_reducible refine Kd.C_drewN ?_ _) | (with_reducible refine Kd.C_drew ?_))); (case side2 => exact (Kd.N_reads' HO136.out).2.1); rintro e w34 ⟨rfl, hb⟩; refine ⟨_, rfl, ?_⟩; have n0_ := Aside0.mk (Kd.N_below (by (with_reducible repeat (first | apply Kd.N_alloc | apply Kd.N_drewN | apply Kd.N_drew)); exact HO133.out) hb); have n1_ := Aside0.mk (Kd.N_below (by (with_reducible repeat (first | apply Kd.N_alloc | apply Kd.N_drewN | apply Kd.N_drew)); exact HO136.out) hb); have n2_ := Aside0.mk (below_step (by repeat (first | (with_reducible first | exact HB.out | apply below_alloc | apply pw_below_drewN | apply below_drew1) | exact HB.out)) hb); clear HO133; clear HO136; clear HB; have HO133 := n0_; have HO136 := n1_; have HB := n2_; clear n0_ n1_ n2_; (try clear hb); (try clear hb2); (try clear hk); (try clear hi)) | ((with_reducible refine gate_callee (f := 6) rfl ?_); refine goesL_ (some 33) rfl rfl Tryd.func6 (by kernel_rfl) rfl #[.slice A1 l1.length c1] rfl (by (try simp only [List.map_toArray, List.map_cons, List.map_nil]); first | done | rfl | (simp only [List.length_drop, List.length_take]; rfl)) ?_; (with_reducible refine (spec_LsSteps.calls kj10 _ _ l1 t138 _ ?side1 ?side2 A24.out).mono ?_); (case side1 => repeat (first | exact (Kd.C_below HR1.out HB.out) | (with_reducible refine Kd.C_alloc ?_ _) | (with_reducible refine Kd.C_drewN ?_ _) | (with_reducible refine Kd.C_drew ?_))); (case side2 => exact HC1.out); rintro e w35 ⟨v139, rfl, ho0, hb⟩; refine ⟨_, rfl, ?_⟩; have n0_ := Aside0.mk (Kd.N_elder' (by (with_reducible repeat (first | apply Kd.N_alloc | apply Kd.N_drewN | apply Kd.N_drew)); exact HO133.out) (Kd.N_base (Kd.S_N ho0)) hb); have n1_ := Aside0.mk (Kd.N_elder' (by (with_reducible repeat (first | apply Kd.N_alloc | apply Kd.N_drewN | apply Kd.N_drew)); exact HO136.out) (Kd.N_base (Kd.S_N ho0)) hb); have n2_ := Aside0.mk (Kd.N_lower (Kd.N_mono (ok' := fun k_ => some k_ ≠ (.slice Ao32 t131.length co32 : Value).ownBlock ∧ some k_ ≠ (.slice Ao33 y134.length co33 : Value).ownBlock) (Kd.S_N (Kd.S_bound ho0)) (fun k_ hk_ => ⟨(Kd.fresh' (Kd.N_lt (by (with_reducible repeat (first | apply Kd.N_alloc | apply Kd.N_drewN | apply Kd.N_drew)); exact HO133.out)) k_ hk_.2.1), (Kd.fresh' (Kd.N_lt (by (with_reducible repeat (first | apply Kd.N_alloc | apply Kd.N_drewN | apply Kd.N_drew)); exact HO136.out)) k_ hk_.2.1)⟩)) (below_size (by repeat (first | (with_reducible first | exact HB.out | apply below_alloc | apply pw_below_drewN | apply below_drew1) | exact HB.out)))); have n3_ := Aside0.mk (below_step (by repeat (first | (with_reducible first | exact HB.out | apply below_alloc | apply pw_below_drewN | apply below_drew1) | exact HB.out)) hb); clear HO133; clear HO136; clear HB; have HO133 := n0_; have HO136 := n1_; have HO140 := n2_; have HB := n3_; clear n0_ n1_ n2_ n3_; (try clear hb); (try clear hb2); (try clear hk); (try clear hi); (try clear ho0); obtain ⟨Ao36, co36, eo36⟩ := Kd.N_slice HO140.out; subst eo36) | ((with_reducible refine gate_callee (f := 7) rfl ?_); refine goesL_ (some 34) rfl rfl Tryd.func7 (by kernel_rfl) rfl #[.slice Ao36 t138.length co36] rfl (by (try simp only [List.map_toArray, List.map_cons, List.map_nil]); first | done | rfl | (simp only [List.length_drop, List.length_take]; rfl)) ?_; (with_reducible refine (impl_ListPlain.calls _ _ t138 t141 _ ?side1 ?side2 A25.out).mono ?_); (case side1 => repeat (first | exact (Kd.N_reads' HO140.out).2.2 | (with_reducible refine Kd.C_alloc ?_ _) | (with_reducible refine Kd.C_drewN ?_ _) | (with_reducible refine Kd.C_drew ?_))); (case side2 => exact (Kd.N_reads' HO140.out).2.1); rintro e w37 ⟨rfl, hb⟩; refine ⟨_, rfl, ?_⟩; have n0_ := Aside0.mk (Kd.N_below (by (with_reducible repeat (first | apply Kd.N_alloc | apply Kd.N_drewN | apply Kd.N_drew)); exact HO133.out) hb); have n1_ := Aside0.mk (Kd.N_below (by (with_reducible repeat (first | apply Kd.N_alloc | apply Kd.N_drewN | apply Kd.N_drew)); exact HO136.out) hb); have n2_ := Aside0.mk (Kd.N_below (by (with_reducible repeat (first | apply Kd.N_alloc | apply Kd.N_drewN | apply Kd.N_drew)); exact HO140.out) hb); have n3_ := Aside0.mk (below_step (by repeat (first | (with_reducible first | exact HB.out | apply below_alloc | apply pw_below_drewN | apply below_drew1) | exact HB.out)) hb); clear HO133; clear HO136; clear HO140; clear HB; have HO133 := n0_; have HO136 := n1_; have HO140 := n2_; have HB := n3_; clear n0_ n1_ n2_ n3_; (try clear hb); (try clear hb2); (try clear hk); (try clear hi)) | (go_at_call 8; (with_reducible refine (impl_ListLength.calls _ _ y134 t142 _ ?side1 ?side2 A27.out).mono ?_); (case side1 => repeat (first | exact (Kd.N_reads' HO136.out).2.2 | (with_reducible refine Kd.C_alloc ?_ _) | (with_reducible refine Kd.C_drewN ?_ _) | (with_reducible refine Kd.C_drew ?_))); (case side2 => exact (Kd.N_reads' HO136.out).2.1); rintro e w38 ⟨rfl, hb⟩; have n0_ := Aside0.mk (Kd.N_below (by (with_reducible repeat (first | apply Kd.N_alloc | apply Kd.N_drewN | apply Kd.N_drew)); exact HO133.out) hb); have n1_ := Aside0.mk (Kd.N_below (by (with_reducible repeat (first | apply Kd.N_alloc | apply Kd.N_drewN | apply Kd.N_drew)); exact HO136.out) hb); have n2_ := Aside0.mk (Kd.N_below (by (with_reducible repeat (first | apply Kd.N_alloc | apply Kd.N_drewN | apply Kd.N_drew)); exact HO140.out) hb); have n3_ := Aside0.mk (below_step (by repeat (first | (with_reducible first | exact HB.out | apply below_alloc | apply pw_below_drewN | apply below_drew1) | exact HB.out)) hb); clear HO133; clear HO136; clear HO140; clear HB; have HO133 := n0_; have HO136 := n1_; have HO140 := n2_; have HB := n3_; clear n0_ n1_ n2_ n3_; (try clear hb); (try clear hb2); (try clear hk); (try clear hi)))
                    go_ret
                    exact ⟨by first | rfl | (simp [errW_none, errW_some] <;> rfl) | (simp [*, errW_none, errW_some] <;> rfl), by repeat (first | (with_reducible first | exact HB.out | apply below_alloc | apply pw_below_drewN | apply below_drew1) | exact HB.out)⟩
                  · rw [if_neg c26] at H
                    have c26b0 : (t137.toList == t141.toList) = false := beq_eq_false_iff_ne.mpr c26
                    have c26b1 : (t137.toList != t141.toList) = true := bne_iff_ne.mpr c26
                    obtain rfl := Option.some.inj H
                    go_wp2_with (first | ((with_reducible refine gate_callee (f := 6) rfl ?_); refine goesL_ (some 23) rfl rfl Tryd.func6 (by kernel_rfl) rfl #[.slice A0 l0.length c0] rfl (by (try simp only [List.map_toArray, List.map_cons, List.map_nil]); first | done | rfl | (simp only [List.length_drop, List.length_take]; rfl)) ?_; (with_reducible refine (spec_LsSteps.calls kj10 _ _ l0 t125 _ ?side1 ?side2 A19.out).mono ?_); (case side1 => repeat (first | exact (Kd.C_below HR0.out HB.out) | (with_reducible refine Kd.C_alloc ?_ _) | (with_reducible refine Kd.C_drewN ?_ _) | (with_reducible refine Kd.C_drew ?_))); (case side2 => exact HC0.out); rintro e w39 ⟨v126, rfl, ho0, hb⟩; refine ⟨_, rfl, ?_⟩; have n0_ := Aside0.mk (Kd.N_lower (Kd.N_mono (ok' := fun k_ => True) (Kd.S_N (Kd.S_bound ho0)) (fun k_ hk_ => trivial)) (below_size (by repeat (first | (with_reducible first | exact HB.out | apply below_alloc | apply pw_below_drewN | apply below_drew1) | exact HB.out)))); have n1_ := Aside0.mk (below_step (by repeat (first | (with_reducible first | exact HB.out | apply below_alloc | apply pw_below_drewN | apply below_drew1) | exact HB.out)) hb); clear HB; have HO127 := n0_; have HB := n1_; clear n0_ n1_; (try clear hb); (try clear hb2); (try clear hk); (try clear hi); (try clear ho0)) | ((with_reducible refine gate_builtin (b := .append) (xs := #[.tmp 23, .tmp 25]) rfl ?_); (try (refine gate_guard (by rfl) ?_; dsimp only)); at_builtin; refine Kd.N_append k28 (w0 := w) w.heap.size rfl (.tmp 23) (.tmp 25) 24 28 (.agg #[(.int .i64 0), (.string ⟨#[]⟩), (.slice none 0 0)]) 48 rfl Tryd.underlying24 info28 rfl (by decide) (by omega) v126 t125 (⟨5, (⟨#[]⟩ : ByteArray), ([] : List ByteArray)⟩ : S28) [.int .i64 5, .string (⟨#[]⟩ : ByteArray), .slice none 0 0] (fun _ => True) (fun k_ => ((fun _ => True)) k_ ∧ some k_ ≠ (v126 : Value).ownBlock) rfl rfl ?aP (fun _ hk => hk) ?aF ?aO ?aB ?aS ?aL ?_; (case aP => exact (k28_mkF _ _ (⟨5, (⟨#[]⟩ : ByteArray), ([] : List ByteArray)⟩ : S28) (Nat.le_refl _) (Kd.F_nil _ _ _))); (case aB => exact (by repeat (first | (with_reducible first | exact HB.out | apply below_alloc | apply pw_below_drewN | apply below_drew1) | exact HB.out))); (case aF => exact (fun _ _ => trivial)); (case aO => exact (by (with_reducible repeat (first | apply Kd.N_alloc | apply Kd.N_drewN | apply Kd.N_drew)); exact HO127.out)); (case aS => exact (below_size (by repeat (first | (with_reducible first | exact HB.out | apply below_alloc | apply pw_below_drewN | apply below_drew1) | exact HB.out)))); (case aL => have := LMc20.out; omega); intro v129 w40 ho hb hg hat; rw [← Ny128.out] at ho; have n0_ := Aside0.mk (hb); have n1_ := Aside0.mk (ho); clear HB; clear HO127; have HB := n0_; have HO130 := n1_; clear n0_ n1_; clear ho hb hg hat) | ((with_reducible refine gate_callee (f := 6) rfl ?_); refine goesL_ (some 28) rfl rfl Tryd.func6 (by kernel_rfl) rfl #[.slice A1 l1.length c1] rfl (by (try simp only [List.map_toArray, List.map_cons, List.map_nil]); first | done | rfl | (simp only [List.length_drop, List.length_take]; rfl)) ?_; (with_reducible refine (spec_LsSteps.calls kj10 _ _ l1 t131 _ ?side1 ?side2 A21.out).mono ?_); (case side1 => repeat (first | exact (Kd.C_below HR1.out HB.out) | (with_reducible refine Kd.C_alloc ?_ _) | (with_reducible refine Kd.C_drewN ?_ _) | (with_reducible refine Kd.C_drew ?_))); (case side2 => exact HC1.out); rintro e w41 ⟨v132, rfl, ho0, hb⟩; refine ⟨_, rfl, ?_⟩; have n0_ := Aside0.mk (Kd.N_elder' (by (with_reducible repeat (first | apply Kd.N_alloc | apply Kd.N_drewN | apply Kd.N_drew)); exact HO130.out) (Kd.N_base (Kd.S_N ho0)) hb); have n1_ := Aside0.mk (Kd.N_lower (Kd.N_mono (ok' := fun k_ => some k_ ≠ (v129 : Value).ownBlock) (Kd.S_N (Kd.S_bound ho0)) (fun k_ hk_ => (Kd.fresh' (Kd.N_lt (by (with_reducible repeat (first | apply Kd.N_alloc | apply Kd.N_drewN | apply Kd.N_drew)); exact HO130.out)) k_ hk_.2.1))) (below_size (by repeat (first | (with_reducible first | exact HB.out | apply below_alloc | apply pw_below_drewN | apply below_drew1) | exact HB.out)))); have n2_ := Aside0.mk (below_step (by repeat (first | (with_reducible first | exact HB.out | apply below_alloc | apply pw_below_drewN | apply below_drew1) | exact HB.out)) hb); clear HO130; clear HB; have HO130 := n0_; have HO133 := n1_; have HB := n2_; clear n0_ n1_ n2_; (try clear hb); (try clear hb2); (try clear hk); (try clear hi); (try clear ho0); obtain ⟨Ao43, co43, eo43⟩ := Kd.N_slice HO133.out; subst eo43) | ((with_reducible refine gate_builtin (b := .append) (xs := #[.tmp 26, .tmp 28]) rfl ?_); (try (refine gate_guard (by rfl) ?_; dsimp only)); at_builtin; refine Kd.N_append_rows k28 (w0 := w) w.heap.size rfl (.tmp 26) (.tmp 28) 24 28 (.agg #[(.int .i64 0), (.string ⟨#[]⟩), (.slice none 0 0)]) 48 rfl Tryd.underlying24 info28 rfl (by decide) (by omega) v129 y128 t131 _ _ _ (fun _ => True) (fun k_ => ((fun _ => True)) k_ ∧ some k_ ≠ (v129 : Value).ownBlock) rfl rfl ?aO ?aR (fun _ hk => hk) ?aF ?aB ?aS ?aL ?_; (case aR => exact (by skip; exact Kd.N_F (Kd.N_mono (ok' := (fun k_ => ((fun _ => True)) k_ ∧ some k_ ≠ (v129 : Value).ownBlock)) (HO133.out) (fun k_ hk => ⟨trivial, hk⟩)))); (case aB => exact (by repeat (first | (with_reducible first | exact HB.out | apply below_alloc | apply pw_below_drewN | apply below_drew1) | exact HB.out))); (case aF => exact (fun _ _ => trivial)); (case aO => exact (by (with_reducible repeat (first | apply Kd.N_alloc | apply Kd.N_drewN | apply Kd.N_drew)); exact Kd.N_mono HO130.out (fun _ hk => trivial))); (case aS => exact (below_size (by repeat (first | (with_reducible first | exact HB.out | apply below_alloc | apply pw_below_drewN | apply below_drew1) | exact HB.out)))); (case aL => have := LMc22.out; omega); intro v135 w42 ho hb hg hat; rw [← Ny134.out] at ho; have n0_ := Aside0.mk (Kd.N_afterv (ok := (fun _ => True)) (by (with_reducible repeat (first | apply Kd.N_alloc | apply Kd.N_drewN | apply Kd.N_drew)); exact Kd.N_mono HO133.out (fun _ hk => ⟨trivial, hk⟩)) hg hat); have n1_ := Aside0.mk (hb); have n2_ := Aside0.mk (ho); clear HO133; clear HB; clear HO130; have HO133 := n0_; have HB := n1_; have HO136 := n2_; clear n0_ n1_ n2_; clear ho hb hg hat; obtain ⟨Ao44, co44, eo44⟩ := Kd.N_slice HO136.out; subst eo44) | ((with_reducible refine gate_callee (f := 7) rfl ?_); refine goesL_ (some 31) rfl rfl Tryd.func7 (by kernel_rfl) rfl #[.slice Ao44 y134.length co44] rfl (by (try simp only [List.map_toArray, List.map_cons, List.map_nil]); first | done | rfl | (simp only [List.length_drop, List.length_take]; rfl)) ?_; (with_reducible refine (impl_ListPlain.calls _ _ y134 t137 _ ?side1 ?side2 A23.out).mono ?_); (case side1 => repeat (first | exact (Kd.N_reads' HO136.out).2.2 | (with_reducible refine Kd.C_alloc ?_ _) | (with_reducible refine Kd.C_drewN ?_ _) | (with_reducible refine Kd.C_drew ?_))); (case side2 => exact (Kd.N_reads' HO136.out).2.1); rintro e w45 ⟨rfl, hb⟩; refine ⟨_, rfl, ?_⟩; have n0_ := Aside0.mk (Kd.N_below (by (with_reducible repeat (first | apply Kd.N_alloc | apply Kd.N_drewN | apply Kd.N_drew)); exact HO133.out) hb); have n1_ := Aside0.mk (Kd.N_below (by (with_reducible repeat (first | apply Kd.N_alloc | apply Kd.N_drewN | apply Kd.N_drew)); exact HO136.out) hb); have n2_ := Aside0.mk (below_step (by repeat (first | (with_reducible first | exact HB.out | apply below_alloc | apply pw_below_drewN | apply below_drew1) | exact HB.out)) hb); clear HO133; clear HO136; clear HB; have HO133 := n0_; have HO136 := n1_; have HB := n2_; clear n0_ n1_ n2_; (try clear hb); (try clear hb2); (try clear hk); (try clear hi)) | ((with_reducible refine gate_callee (f := 6) rfl ?_); refine goesL_ (some 33) rfl rfl Tryd.func6 (by kernel_rfl) rfl #[.slice A1 l1.length c1] rfl (by (try simp only [List.map_toArray, List.map_cons, List.map_nil]); first | done | rfl | (simp only [List.length_drop, List.length_take]; rfl)) ?_; (with_reducible refine (spec_LsSteps.calls kj10 _ _ l1 t138 _ ?side1 ?side2 A24.out).mono ?_); (case side1 => repeat (first | exact (Kd.C_below HR1.out HB.out) | (with_reducible refine Kd.C_alloc ?_ _) | (with_reducible refine Kd.C_drewN ?_ _) | (with_reducible refine Kd.C_drew ?_))); (case side2 => exact HC1.out); rintro e w46 ⟨v139, rfl, ho0, hb⟩; refine ⟨_, rfl, ?_⟩; have n0_ := Aside0.mk (Kd.N_elder' (by (with_reducible repeat (first | apply Kd.N_alloc | apply Kd.N_drewN | apply Kd.N_drew)); exact HO133.out) (Kd.N_base (Kd.S_N ho0)) hb); have n1_ := Aside0.mk (Kd.N_elder' (by (with_reducible repeat (first | apply Kd.N_alloc | apply Kd.N_drewN | apply Kd.N_drew)); exact HO136.out) (Kd.N_base (Kd.S_N ho0)) hb); have n2_ := Aside0.mk (Kd.N_lower (Kd.N_mono (ok' := fun k_ => some k_ ≠ (.slice Ao43 t131.length co43 : Value).ownBlock ∧ some k_ ≠ (.slice Ao44 y134.length co44 : Value).ownBlock) (Kd.S_N (Kd.S_bound ho0)) (fun k_ hk_ => ⟨(Kd.fresh' (Kd.N_lt (by (with_reducible repeat (first | apply Kd.N_alloc | apply Kd.N_drewN | apply Kd.N_drew)); exact HO133.out)) k_ hk_.2.1), (Kd.fresh' (Kd.N_lt (by (with_reducible repeat (first | apply Kd.N_alloc | apply Kd.N_drewN | apply Kd.N_drew)); exact HO136.out)) k_ hk_.2.1)⟩)) (below_size (by repeat (first | (with_reducible first | exact HB.out | apply below_alloc | apply pw_below_drewN | apply below_drew1) | exact HB.out)))); have n3_ := Aside0.mk (below_step (by repeat (first | (with_reducible first | exact HB.out | apply below_alloc | apply pw_below_drewN | apply below_drew1) | exact HB.out)) hb); clear HO133; clear HO136; clear HB; have HO133 := n0_; have HO136 := n1_; have HO140 := n2_; have HB := n3_; clear n0_ n1_ n2_ n3_; (try clear hb); (try clear hb2); (try clear hk); (try clear hi); (try clear ho0); obtain ⟨Ao47, co47, eo47⟩ := Kd.N_slice HO140.out; subst eo47) | ((with_reducible refine gate_callee (f := 7) rfl ?_); refine goesL_ (some 34) rfl rfl Tryd.func7 (by kernel_rfl) rfl #[.slice Ao47 t138.length co47] rfl (by (try simp only [List.map_toArray, List.map_cons, List.map_nil]); first | done | rfl | (simp only [List.length_drop, List.length_take]; rfl)) ?_; (with_reducible refine (impl_ListPlain.calls _ _ t138 t141 _ ?side1 ?side2 A25.out).mono ?_); (case side1 => repeat (first | exact (Kd.N_reads' HO140.out).2.2 | (with_reducible refine Kd.C_alloc ?_ _) | (with_reducible refine Kd.C_drewN ?_ _) | (with_reducible refine Kd.C_drew ?_))); (case side2 => exact (Kd.N_reads' HO140.out).2.1); rintro e w48 ⟨rfl, hb⟩; refine ⟨_, rfl, ?_⟩; have n0_ := Aside0.mk (Kd.N_below (by (with_reducible repeat (first | apply Kd.N_alloc | apply Kd.N_drewN | apply Kd.N_drew)); exact HO133.out) hb); have n1_ := Aside0.mk (Kd.N_below (by (with_reducible repeat (first | apply Kd.N_alloc | apply Kd.N_drewN | apply Kd.N_drew)); exact HO136.out) hb); have n2_ := Aside0.mk (Kd.N_below (by (with_reducible repeat (first | apply Kd.N_alloc | apply Kd.N_drewN | apply Kd.N_drew)); exact HO140.out) hb); have n3_ := Aside0.mk (below_step (by repeat (first | (with_reducible first | exact HB.out | apply below_alloc | apply pw_below_drewN | apply below_drew1) | exact HB.out)) hb); clear HO133; clear HO136; clear HO140; clear HB; have HO133 := n0_; have HO136 := n1_; have HO140 := n2_; have HB := n3_; clear n0_ n1_ n2_ n3_; (try clear hb); (try clear hb2); (try clear hk); (try clear hi)))
                    go_ret
                    exact ⟨by first | rfl | (simp [errW_none, errW_some] <;> rfl) | (simp [*, errW_none, errW_some] <;> rfl), by repeat (first | (with_reducible first | exact HB.out | apply below_alloc | apply pw_below_drewN | apply below_drew1) | exact HB.out)⟩
                · rw [if_neg c22] at H
                  exact absurd H (by simp)
              · rw [if_neg c20] at H
                exact absurd H (by simp)

end Go.Proofs.YtemcjnminnnefaaDoor.GFnListReset
