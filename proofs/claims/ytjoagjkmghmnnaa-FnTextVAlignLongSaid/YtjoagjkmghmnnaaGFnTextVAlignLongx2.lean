-- printed by a program of this session (gprint.py) out of the translation; Lean checks it
import Derived.Test.YtjoagjkmghmnnaaGFnTextVAlignLongx0
import Derived.Test.YtjoagjkmghmnnaaGFnTextVAlignLongx1
namespace Go.Proofs.Ytjoagjkmghmnnaa.GFnTextVAlignLong
open Go.RowKit Go.Proofs.YtjoagjkmghmnnaaW.PrintWords Go.Proofs.YtjoagjkmghmnnaaW.PrintLast Go.Proofs.Ytjoagjkmghmnnaa.Given Go.Proofs.YtjoagjkmghmnnaaW.PrintMore
attribute [local go_sem] max2_int min2_int max_two min_two max_three min_three max_four min_four   -- for this text's walks alone
set_option linter.unusedVariables false
set_option linter.unusedSimpArgs false

/-! ### impl_TextVAlign: function 42 -/
def impl_TextVAlign.f (k : Nat) (a0 : Int) (l1 : List ByteArray) (a2 : Int) : Option (List ByteArray) := (some (([] : List ByteArray) : List ByteArray)).bind fun y117 => (if y117.length + l1.length < 8796093022208 then ((text_VAlign_Apply.f k a0 (y117 ++ l1) a2).bind fun t123 => (some t123)) else (none))
theorem impl_TextVAlign.mono : ∀ a0 a1 a2 k, LeO (impl_TextVAlign.f k a0 a1 a2) (impl_TextVAlign.f (k + 1) a0 a1 a2) := by
  intro a0 a1 a2 k
  unfold impl_TextVAlign.f
  repeat' first
      | (with_reducible exact text_VAlign_Apply.mono _ _ _ _)
      | (with_reducible exact LeO.refl _)
      | (with_reducible exact LeO.none _)
      | (with_reducible refine LeO.ite ?_ ?_)
      | (with_reducible refine LeO.bind ?_ (fun _ => ?_))
      | exact text_VAlign_Apply.mono _ _ _ _
      | exact LeO.none _
      | refine LeO.ite ?_ ?_
      | refine LeO.bind ?_ (fun _ => ?_)
set_option maxHeartbeats 8000000 in
set_option maxRecDepth 100000 in
theorem impl_TextVAlign.calls (k : Nat) (a0 : Int) (A1 : Option Addr) (c1 : Nat) (l1 : List ByteArray) (a2 : Int) (r : List ByteArray) (w : World) (hr1 : Kd.C Kd.string w A1 l1.length l1) (hc1 : l1.length ≤ c1) (h : impl_TextVAlign.f k a0 l1 a2 = some r) :
    Calls Try.prog 42 #[.int .i64 a0, .slice A1 l1.length c1, .int .i64 a2] w fun e w' => ∃ v0_ : Value, e = .returned (v0_) ∧ Kd.R Kd.string 9 w' w.heap.size (fun _ => True) v0_ r ∧ Below w.heap.size w w' := by
  have HR1 := Aside0.mk hr1
  have HC1 := Aside0.mk hc1
  clear hr1 hc1
  have HB := Aside0.mk (Below.refl w.heap.size w)
  have H : ((some (([] : List ByteArray) : List ByteArray)).bind fun y117 => (if y117.length + l1.length < 8796093022208 then ((text_VAlign_Apply.f k a0 (y117 ++ l1) a2).bind fun t123 => (some t123)) else (none))) = some r := h
  clear h
  obtain ⟨y117, hy117⟩ : ∃ y_ : List ByteArray, y_ = (([] : List ByteArray)) := ⟨_, rfl⟩
  replace H : (if y117.length + l1.length < 8796093022208 then ((text_VAlign_Apply.f k a0 (y117 ++ l1) a2).bind fun t123 => (some t123)) else (none)) = some r := by first | (rw [hy117]; with_reducible exact H) | (have H2_ := (Option.bind_some _ _).symm.trans H; rw [hy117]; with_reducible exact H2_) | (have H2_ := (Option.bind_some _ _).symm.trans H; with_reducible exact H2_) | with_reducible exact H | (rw [hy117]; exact H) | exact H
  have Ny117 := Aside0.mk hy117
  clear hy117
  by_cases c4 : y117.length + l1.length < 8796093022208
  · rw [if_pos c4] at H
    have LMc4 := Aside0.mk c4
    clear c4
    obtain ⟨y120, hy120⟩ : ∃ y_ : List ByteArray, y_ = (y117 ++ l1) := ⟨_, rfl⟩
    replace H : ((text_VAlign_Apply.f k a0 y120 a2).bind fun t123 => (some t123)) = some r := by first | (rw [hy120]; with_reducible exact H) | (have H2_ := (Option.bind_some _ _).symm.trans H; rw [hy120]; with_reducible exact H2_) | (have H2_ := (Option.bind_some _ _).symm.trans H; with_reducible exact H2_) | with_reducible exact H | (rw [hy120]; exact H) | exact H
    have Ny120 := Aside0.mk hy120
    clear hy120
    replace H := Option.bind_eq_some_iff.mp H
    obtain ⟨t123, A50, H⟩ := H
    replace H : (some t123) = some r := H
    have A5 := Aside0.mk A50
    clear A50
    obtain rfl := Option.some.inj H
    go_enter Try.func42, Try.ntmps42
    go_wp2_with (first | ((with_reducible refine gate_dst (N := 8) rfl ?_); refine Kd.R_lit Kd.string _ 9 ?hg (N := 8) ?hd (xs := ([] : List ByteArray)) (inner := []) (ok := fun _ => True) (okp := fun _ => True) ?hr ?hp (fun _ hk => hk) trivial (Below.refl _ _) (Nat.le_refl _) (by simp) ?_; (case hd => rfl); (case hg => rfl); (case hr => first | (go_simp; done) | (go_simp; rfl)); (case hp => exact (Reps.none _ _)); intro v118 w6 ho7 hb hg_ hnew_; clear hg_ hnew_; (first | rw [← Ny117.out] at ho7 | (simp only [Int.reduceToNat] at ho7; rw [← Ny117.out] at ho7)); have n0_ := Aside0.mk (Kd.R_lower ho7 (below_size (by repeat (first | (with_reducible first | exact HB.out | apply below_alloc | apply pw_below_drewN | apply below_drew1) | exact HB.out)))); have n1_ := Aside0.mk (below_step (by repeat (first | (with_reducible first | exact HB.out | apply below_alloc | apply pw_below_drewN | apply below_drew1) | exact HB.out)) hb); clear HB; have HO119 := n0_; have HB := n1_; clear n0_ n1_; clear hb ho7) | ((with_reducible refine gate_builtin (b := .append) (xs := #[.tmp 8, .tmp 9]) rfl ?_); at_builtin; refine Kd.R_append_rows Kd.string (w0 := w) w.heap.size rfl (.tmp 8) (.tmp 9) 29 9 (.string ⟨#[]⟩) 16 rfl Try.underlying29 info9 rfl (by decide) (by omega) v118 y117 l1 _ _ _ (fun _ => True) (fun _ => False) rfl rfl ?aO ?aR (fun _ _ h => h) (fun _ h => h.elim) ?aF ?aB ?aS ?aL ?_; (case aR => repeat (first | exact (Kd.C_below HR1.out HB.out) | (with_reducible refine Kd.C_alloc ?_ _) | (with_reducible refine Kd.C_drewN ?_ _) | (with_reducible refine Kd.C_drew ?_))); (case aB => exact (by repeat (first | (with_reducible first | exact HB.out | apply below_alloc | apply pw_below_drewN | apply below_drew1) | exact HB.out))); (case aF => exact (fun _ _ => trivial)); (case aO => exact (by (with_reducible repeat (first | apply Kd.R_alloc | apply Kd.R_drewN | apply Kd.R_drew)); exact HO119.out)); (case aS => exact (below_size (by repeat (first | (with_reducible first | exact HB.out | apply below_alloc | apply pw_below_drewN | apply below_drew1) | exact HB.out)))); (case aL => have := LMc4.out; omega); intro v121 w8 ho hb hg hat; rw [← Ny120.out] at ho; have n0_ := Aside0.mk (hb); have n1_ := Aside0.mk (ho); clear HB; clear HO119; have HB := n0_; have HO122 := n1_; clear n0_ n1_; clear ho hb hg hat; obtain ⟨Ao9, co9, eo9⟩ := Kd.R_slice HO122.out; subst eo9) | ((with_reducible refine gate_callee (f := 82) rfl ?_); refine goesL_ (some 12) rfl rfl Try.func82 (by kernel_rfl) rfl #[.int .i64 a0, .slice Ao9 y120.length co9, .int .i64 a2] rfl (by (try simp only [List.map_toArray, List.map_cons, List.map_nil]); first | done | rfl | (simp only [List.length_drop, List.length_take]; rfl)) ?_; (with_reducible refine (text_VAlign_Apply.calls k a0 (fun k_ => some k_ = (.slice Ao9 y120.length co9 : Value).ownBlock) (.slice Ao9 y120.length co9) y120 a2 t123 w _ ?side1 ?side2 A5.out).mono ?_); (case side1 => repeat (first | (with_reducible first | exact HB.out | apply below_alloc | apply pw_below_drewN | apply below_drew1) | exact HB.out)); (case side2 => exact Kd.R_tight rfl HO122.out); rintro e w10 ⟨v124, rfl, ho0, hb, hkp⟩; refine ⟨_, rfl, ?_⟩; have n0_ := Aside0.mk (Kd.R_mono (ok' := fun k_ => True) ho0 (fun k_ hk_ => trivial)); have n1_ := Aside0.mk (hb); clear HB; clear HO122; have HO125 := n0_; have HB := n1_; clear n0_ n1_; (try clear hb); (try clear hkp); (try clear ho0)))
    go_ret
    exact ⟨_, by first | rfl | (simp [errW_none, errW_some] <;> rfl) | (simp [*, errW_none, errW_some] <;> rfl), by (with_reducible repeat (first | apply Kd.R_alloc | apply Kd.R_drewN | apply Kd.R_drew)); exact HO125.out, by repeat (first | (with_reducible first | exact HB.out | apply below_alloc | apply pw_below_drewN | apply below_drew1) | exact HB.out)⟩
  · rw [if_neg c4] at H
    exact absurd H (by simp)

/-! ### laws_FnTextVAlignLong: function 14 -/
def laws_FnTextVAlignLong.j0 : Nat → Int → List ByteArray → Int → Bool → Option (Bool)
  | 0, _, _, _, _ => none
  | k + 1, x0, x1, x2, x22 => if x22 = true then (some true) else ((impl_TextVAlign.f k (wrap64 (Int.tmod x0 4)) x1 x2).bind fun t127 => ((spec_TxSameTexts.f k t127 x1).bind fun t130 => (some t130)))
def laws_FnTextVAlignLong.f (k : Nat) (a0 : Int) (l1 : List ByteArray) (a2 : Int) : Option (Bool) := (laws_zzFits4.f k l1).bind fun t126 => (if t126 = true then (if (l1.length : Int) > 300 then (laws_FnTextVAlignLong.j0 k a0 l1 a2 true) else (if a2 < 0 then (laws_FnTextVAlignLong.j0 k a0 l1 a2 true) else (laws_FnTextVAlignLong.j0 k a0 l1 a2 (decide (a2 ≥ (l1.length : Int)))))) else (some true))
theorem laws_FnTextVAlignLong.mono_l : ∀ k, (∀ y0 y1 y2 y3, LeO (laws_FnTextVAlignLong.j0 k y0 y1 y2 y3) (laws_FnTextVAlignLong.j0 (k + 1) y0 y1 y2 y3))
  | 0 => fun _ _ _ _ r h => by simp [laws_FnTextVAlignLong.j0] at h
  | k + 1 => by
    have ih0 := laws_FnTextVAlignLong.mono_l k
    · intro y0 y1 y2 y3
      unfold laws_FnTextVAlignLong.j0
      repeat' first
      | (with_reducible exact ih0 _ _ _ _)
      | (with_reducible exact impl_TextVAlign.mono _ _ _ _)
      | (with_reducible exact laws_zzFits4.mono _ _)
      | (with_reducible exact spec_TxSameTexts.mono _ _ _)
      | (with_reducible exact LeO.refl _)
      | (with_reducible exact LeO.none _)
      | (with_reducible refine LeO.ite ?_ ?_)
      | (with_reducible refine LeO.bind ?_ (fun _ => ?_))
      | exact ih0 _ _ _ _
      | exact impl_TextVAlign.mono _ _ _ _
      | exact laws_zzFits4.mono _ _
      | exact spec_TxSameTexts.mono _ _ _
      | exact LeO.none _
      | refine LeO.ite ?_ ?_
      | refine LeO.bind ?_ (fun _ => ?_)
theorem laws_FnTextVAlignLong.mono : ∀ a0 a1 a2 k, LeO (laws_FnTextVAlignLong.f k a0 a1 a2) (laws_FnTextVAlignLong.f (k + 1) a0 a1 a2) := by
  intro a0 a1 a2 k
  have ih0 := laws_FnTextVAlignLong.mono_l k
  unfold laws_FnTextVAlignLong.f
  repeat' first
      | (with_reducible exact ih0 _ _ _ _)
      | (with_reducible exact impl_TextVAlign.mono _ _ _ _)
      | (with_reducible exact laws_zzFits4.mono _ _)
      | (with_reducible exact spec_TxSameTexts.mono _ _ _)
      | (with_reducible exact LeO.refl _)
      | (with_reducible exact LeO.none _)
      | (with_reducible refine LeO.ite ?_ ?_)
      | (with_reducible refine LeO.bind ?_ (fun _ => ?_))
      | exact ih0 _ _ _ _
      | exact impl_TextVAlign.mono _ _ _ _
      | exact laws_zzFits4.mono _ _
      | exact spec_TxSameTexts.mono _ _ _
      | exact LeO.none _
      | refine LeO.ite ?_ ?_
      | refine LeO.bind ?_ (fun _ => ?_)
set_option maxHeartbeats 8000000 in
set_option maxRecDepth 100000 in
theorem laws_FnTextVAlignLong.calls (k : Nat) (a0 : Int) (A1 : Option Addr) (c1 : Nat) (l1 : List ByteArray) (a2 : Int) (r : Bool) (w : World) (hr1 : Kd.C Kd.string w A1 l1.length l1) (hc1 : l1.length ≤ c1) (h : laws_FnTextVAlignLong.f k a0 l1 a2 = some r) :
    Calls Try.prog 14 #[.int .u8 a0, .slice A1 l1.length c1, .int .i64 a2] w fun e w' => e = .returned (.bool r) ∧ Below w.heap.size w w' := by
  have HR1 := Aside0.mk hr1
  have HC1 := Aside0.mk hc1
  clear hr1 hc1
  have HB := Aside0.mk (Below.refl w.heap.size w)
  have H : ((laws_zzFits4.f k l1).bind fun t126 => (if t126 = true then (if (l1.length : Int) > 300 then (laws_FnTextVAlignLong.j0 k a0 l1 a2 true) else (if a2 < 0 then (laws_FnTextVAlignLong.j0 k a0 l1 a2 true) else (laws_FnTextVAlignLong.j0 k a0 l1 a2 (decide (a2 ≥ (l1.length : Int)))))) else (some true))) = some r := h
  clear h
  replace H := Option.bind_eq_some_iff.mp H
  obtain ⟨t126, A40, H⟩ := H
  replace H : (if t126 = true then (if (l1.length : Int) > 300 then (laws_FnTextVAlignLong.j0 k a0 l1 a2 true) else (if a2 < 0 then (laws_FnTextVAlignLong.j0 k a0 l1 a2 true) else (laws_FnTextVAlignLong.j0 k a0 l1 a2 (decide (a2 ≥ (l1.length : Int)))))) else (some true)) = some r := H
  have A4 := Aside0.mk A40
  clear A40
  by_cases c5 : t126 = true
  · subst c5
    have H1 : (if (l1.length : Int) > 300 then (laws_FnTextVAlignLong.j0 k a0 l1 a2 true) else (if a2 < 0 then (laws_FnTextVAlignLong.j0 k a0 l1 a2 true) else (laws_FnTextVAlignLong.j0 k a0 l1 a2 (decide (a2 ≥ (l1.length : Int)))))) = some r := by rw [if_pos rfl] at H; exact H
    clear H
    have H := H1
    clear H1
    have HC6 := Aside0.mk H
    clear H
    go_enter Try.func14, Try.ntmps14
    go_upto_region 3 with (first | ((with_reducible refine gate_callee (f := 19) rfl ?_); refine goesL_ (some 8) rfl rfl Try.func19 (by kernel_rfl) rfl #[.slice A1 l1.length c1] rfl (by (try simp only [List.map_toArray, List.map_cons, List.map_nil]); first | done | rfl | (simp only [List.length_drop, List.length_take]; rfl)) ?_; (with_reducible refine (laws_zzFits4.calls k _ _ l1 true _ ?side1 ?side2 A4.out).mono ?_); (case side1 => repeat (first | exact HR1.out | (with_reducible refine Kd.C_alloc ?_ _) | (with_reducible refine Kd.C_drewN ?_ _) | (with_reducible refine Kd.C_drew ?_))); (case side2 => exact HC1.out); rintro e w' ⟨rfl, ⟨nd, rfl⟩⟩; refine ⟨_, rfl, ?_⟩))
    (try simp only [Act.put, List.setIfInBounds_toArray, List.set_cons_zero, List.set_cons_succ])
    go_cut [22] (fun v22 wc => ∃ (kq : Nat) (x22_5 : Bool), v22 = .bool x22_5 ∧ Aside0 (laws_FnTextVAlignLong.j0 kq a0 l1 a2 x22_5 = some r) ∧ Aside0 (kq ≤ k) ∧ Aside0 (Below w.heap.size w wc))
    case first =>
      have H := HC6.out
      clear HC6
      by_cases c7 : (l1.length : Int) > 300
      · rw [if_pos c7] at H
        have c7b0 : decide (300 < (l1.length : Int)) = true := decide_eq_true c7
        have c7b1 : decide (300 < l1.length) = true := decide_eq_true (by omega)
        clear c7
        (first | rw [c7b0] | (simp only [i64_w, i32_w]; rw [c7b0]) | skip)
        have H' := Aside0.mk H
        clear H
        go_wp2
        go_meet
        case rel => exact ⟨_, (true), (by first | rfl | (simp; done) | (simp [*]; done)), H', ⟨by first | omega | exact Nat.le_refl _⟩, ⟨by repeat (first | (with_reducible first | exact HB.out | apply below_alloc | apply pw_below_drewN | apply below_drew1) | exact HB.out)⟩⟩
      · rw [if_neg c7] at H
        have c7b0 : decide (300 < (l1.length : Int)) = false := decide_eq_false c7
        have c7b1 : decide (300 < l1.length) = false := decide_eq_false (by omega)
        clear c7
        (first | rw [c7b0] | (simp only [i64_w, i32_w]; rw [c7b0]) | skip)
        by_cases c8 : a2 < 0
        · rw [if_pos c8] at H
          have c8b0 : decide (a2 < 0) = true := decide_eq_true c8
          clear c8
          have H' := Aside0.mk H
          clear H
          go_wp2
          go_meet
          case rel => exact ⟨_, (true), (by first | rfl | (simp; done) | (simp [*]; done)), H', ⟨by first | omega | exact Nat.le_refl _⟩, ⟨by repeat (first | (with_reducible first | exact HB.out | apply below_alloc | apply pw_below_drewN | apply below_drew1) | exact HB.out)⟩⟩
        · rw [if_neg c8] at H
          have c8b0 : decide (a2 < 0) = false := decide_eq_false c8
          clear c8
          have H' := Aside0.mk H
          clear H
          go_wp2
          go_meet
          case rel => exact ⟨_, (decide (a2 ≥ (l1.length : Int))), (by first | rfl | (simp; done) | (simp [*]; done)), H', ⟨by first | omega | exact Nat.le_refl _⟩, ⟨by repeat (first | (with_reducible first | exact HB.out | apply below_alloc | apply pw_below_drewN | apply below_drew1) | exact HB.out)⟩⟩
    case rest =>
      clear HC6
      try clear c1
      try clear p2
      try clear c5
      try clear c7
      try clear c7b0
      try clear c7b1
      try clear c8
      try clear c8b0
      obtain ⟨kq, x22_5, rfl, HA, HJ5, HB⟩ := hcut
      cases kq with
      | zero => exact absurd HA.out (by simp [laws_FnTextVAlignLong.j0])
      | succ kj5 =>
        have H := HA.out
        clear HA
        simp only [laws_FnTextVAlignLong.j0] at H
        by_cases c9 : x22_5 = true
        · subst c9
          have H1 : (some true) = some r := by rw [if_pos rfl] at H; exact H
          clear H
          have H := H1
          clear H1
          obtain rfl := Option.some.inj H
          go_wp2
          go_ret
          exact ⟨by first | rfl | (simp [errW_none, errW_some] <;> rfl) | (simp [*, errW_none, errW_some] <;> rfl), by repeat (first | (with_reducible first | exact HB.out | apply below_alloc | apply pw_below_drewN | apply below_drew1) | exact HB.out)⟩
        · replace c9 := Bool.eq_false_iff.mpr c9
          subst c9
          have H1 : ((impl_TextVAlign.f kj5 (wrap64 (Int.tmod a0 4)) l1 a2).bind fun t127 => ((spec_TxSameTexts.f kj5 t127 l1).bind fun t130 => (some t130))) = some r := by rw [if_neg (show ¬ (false = true) by decide)] at H; exact H
          clear H
          have H := H1
          clear H1
          replace H := Option.bind_eq_some_iff.mp H
          obtain ⟨t127, A100, H⟩ := H
          replace H : ((spec_TxSameTexts.f kj5 t127 l1).bind fun t130 => (some t130)) = some r := H
          have A10 := Aside0.mk A100
          clear A100
          replace H := Option.bind_eq_some_iff.mp H
          obtain ⟨t130, A110, H⟩ := H
          replace H : (some t130) = some r := H
          have A11 := Aside0.mk A110
          clear A110
          obtain rfl := Option.some.inj H
          go_wp2_with (first | ((with_reducible refine gate_callee (f := 42) rfl ?_); refine goesL_ (some 28) rfl rfl Try.func42 (by kernel_rfl) rfl #[.int .i64 (wrap64 (Int.tmod a0 4)), .slice A1 l1.length c1, .int .i64 a2] rfl (by (try simp only [List.map_toArray, List.map_cons, List.map_nil]); first | done | rfl | (simp only [List.length_drop, List.length_take]; rfl)) ?_; (with_reducible refine (impl_TextVAlign.calls kj5 (wrap64 (Int.tmod a0 4)) _ _ l1 a2 t127 _ ?side1 ?side2 A10.out).mono ?_); (case side1 => repeat (first | exact (Kd.C_below HR1.out HB.out) | (with_reducible refine Kd.C_alloc ?_ _) | (with_reducible refine Kd.C_drewN ?_ _) | (with_reducible refine Kd.C_drew ?_))); (case side2 => exact HC1.out); rintro e w12 ⟨v128, rfl, ho0, hb⟩; refine ⟨_, rfl, ?_⟩; have n0_ := Aside0.mk (Kd.R_lower ho0 (below_size (by repeat (first | (with_reducible first | exact HB.out | apply below_alloc | apply pw_below_drewN | apply below_drew1) | exact HB.out)))); have n1_ := Aside0.mk (below_step (by repeat (first | (with_reducible first | exact HB.out | apply below_alloc | apply pw_below_drewN | apply below_drew1) | exact HB.out)) hb); clear HB; have HO129 := n0_; have HB := n1_; clear n0_ n1_; (try clear hb); (try clear hb2); (try clear hk); (try clear hi); (try clear ho0); obtain ⟨Ao13, co13, eo13⟩ := Kd.R_slice HO129.out; subst eo13) | ((with_reducible refine gate_callee (f := 41) rfl ?_); refine goesL_ (some 30) rfl rfl Try.func41 (by kernel_rfl) rfl #[.slice Ao13 t127.length co13, .slice A1 l1.length c1] rfl (by (try simp only [List.map_toArray, List.map_cons, List.map_nil]); first | done | rfl | (simp only [List.length_drop, List.length_take]; rfl)) ?_; (with_reducible refine (spec_TxSameTexts.calls kj5 _ _ t127 _ _ l1 t130 _ ?side1 ?side2 ?side3 ?side4 A11.out).mono ?_); (case side1 => repeat (first | exact (Kd.R_reads' HO129.out).2.2 | (with_reducible refine Kd.C_alloc ?_ _) | (with_reducible refine Kd.C_drewN ?_ _) | (with_reducible refine Kd.C_drew ?_))); (case side2 => exact (Kd.R_reads' HO129.out).2.1); (case side3 => repeat (first | exact (Kd.C_below HR1.out HB.out) | (with_reducible refine Kd.C_alloc ?_ _) | (with_reducible refine Kd.C_drewN ?_ _) | (with_reducible refine Kd.C_drew ?_))); (case side4 => exact HC1.out); rintro e w' ⟨rfl, ⟨nd, rfl⟩⟩; refine ⟨_, rfl, ?_⟩))
          go_ret
          exact ⟨by first | rfl | (simp [errW_none, errW_some] <;> rfl) | (simp [*, errW_none, errW_some] <;> rfl), by repeat (first | (with_reducible first | exact HB.out | apply below_alloc | apply pw_below_drewN | apply below_drew1) | exact HB.out)⟩
  · replace c5 := Bool.eq_false_iff.mpr c5
    subst c5
    have H1 : (some true) = some r := by rw [if_neg (show ¬ (false = true) by decide)] at H; exact H
    clear H
    have H := H1
    clear H1
    obtain rfl := Option.some.inj H
    go_enter Try.func14, Try.ntmps14
    go_wp2_with (first | ((with_reducible refine gate_callee (f := 19) rfl ?_); refine goesL_ (some 8) rfl rfl Try.func19 (by kernel_rfl) rfl #[.slice A1 l1.length c1] rfl (by (try simp only [List.map_toArray, List.map_cons, List.map_nil]); first | done | rfl | (simp only [List.length_drop, List.length_take]; rfl)) ?_; (with_reducible refine (laws_zzFits4.calls k _ _ l1 false _ ?side1 ?side2 A4.out).mono ?_); (case side1 => repeat (first | exact HR1.out | (with_reducible refine Kd.C_alloc ?_ _) | (with_reducible refine Kd.C_drewN ?_ _) | (with_reducible refine Kd.C_drew ?_))); (case side2 => exact HC1.out); rintro e w' ⟨rfl, ⟨nd, rfl⟩⟩; refine ⟨_, rfl, ?_⟩))
    go_ret
    exact ⟨by first | rfl | (simp [errW_none, errW_some] <;> rfl) | (simp [*, errW_none, errW_some] <;> rfl), by repeat (first | (with_reducible first | exact HB.out | apply below_alloc | apply pw_below_drewN | apply below_drew1) | exact HB.out)⟩

end Go.Proofs.Ytjoagjkmghmnnaa.GFnTextVAlignLong
