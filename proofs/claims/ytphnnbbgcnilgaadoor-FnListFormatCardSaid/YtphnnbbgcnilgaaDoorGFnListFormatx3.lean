-- printed by a program of this session (gprint.py) out of the translation; Lean checks it
import Derived.Test.YtphnnbbgcnilgaaDoorGFnListFormatx0
import Derived.Test.YtphnnbbgcnilgaaDoorGFnListFormatx1
import Derived.Test.YtphnnbbgcnilgaaDoorGFnListFormatx2
import Derived.Test.YtphnnbbgcnilgaaDoorGivenFmt
namespace Go.Proofs.YtphnnbbgcnilgaaDoor.GFnListFormat
open Go.RowKit Go.Proofs.YtphnnbbgcnilgaaDoorW.PrintWords Go.Proofs.YtphnnbbgcnilgaaDoorW.PrintLast Go.Proofs.YtphnnbbgcnilgaaDoor.GivenFmt Go.Proofs.YtphnnbbgcnilgaaDoorW.PrintMore
attribute [local go_sem] max2_int min2_int max_two min_two max_three min_three max_four min_four   -- for this text's walks alone
set_option linter.unusedVariables false
set_option linter.unusedSimpArgs false

/-! ### laws_FnListFormat: function 4 -/
mutual
def laws_FnListFormat.j0 : Nat → List (S36) → Int → Bool → Int → ByteArray → ByteArray → ByteArray → ByteArray → ByteArray → ByteArray → ByteArray → ByteArray → Option (Bool)
  | 0, _, _, _, _, _, _, _, _, _, _, _, _ => none
  | k + 1, x0, x2, x17, x127000, x127001, x127002, x127003, x127004, x127005, x127006, x127007, x127008 => if x17 = true then (some true) else ((spec_LsRight.f k x0).bind fun t129 => (if t129 = true then ((spec_LsStyled.f x127000 x127001 x127002 x127003 x127004 x127005 x127006 x127007 x127008).bind fun t130 => (laws_FnListFormat.j1 k x0 x2 (!t130) x127000 x127001 x127002 x127003 x127004 x127005 x127006 x127007 x127008)) else (laws_FnListFormat.j1 k x0 x2 true x127000 x127001 x127002 x127003 x127004 x127005 x127006 x127007 x127008)))
def laws_FnListFormat.j1 : Nat → List (S36) → Int → Bool → Int → ByteArray → ByteArray → ByteArray → ByteArray → ByteArray → ByteArray → ByteArray → ByteArray → Option (Bool)
  | 0, _, _, _, _, _, _, _, _, _, _, _, _ => none
  | k + 1, x0, x2, x25, x127000, x127001, x127002, x127003, x127004, x127005, x127006, x127007, x127008 => if x25 = true then (some true) else ((some (([] : List (S36)) : List (S36))).bind fun y132 => (if y132.length + x0.length < 5864062014805 then ((some (y132 ++ x0 : List (S36))).bind fun y135 => (laws_FnListFormat.l0 k x0 y135 (y135.length : Int) 0 x127000 x127001 x127002 x127003 x127004 x127005 x127006 x127007 x127008 (wrap64 (Int.tmod x2 4)) x127001 x127002 x127003 x127004 x127005 x127006 x127007 x127008)) else (none)))
def laws_FnListFormat.l0 : Nat → List (S36) → List (S36) → Int → Int → Int → ByteArray → ByteArray → ByteArray → ByteArray → ByteArray → ByteArray → ByteArray → ByteArray → Int → ByteArray → ByteArray → ByteArray → ByteArray → ByteArray → ByteArray → ByteArray → ByteArray → Option (Bool)
  | 0, _, _, _, _, _, _, _, _, _, _, _, _, _, _, _, _, _, _, _, _, _, _ => none
  | k + 1, x0, x8, x35, x36, x127000, x127001, x127002, x127003, x127004, x127005, x127006, x127007, x127008, x132000, x132001, x132002, x132003, x132004, x132005, x132006, x132007, x132008 => if x36 < x35 then (if 0 ≤ x36 then (if x36 < (x8.length : Int) then ((impl_TextFormat.f x132000 ((rd_T36 x8 x36).f0)).bind fun t139 => (laws_FnListFormat.l0 k x0 (x8.set (x36 : Int).toNat (⟨t139, (rd_T36 x8 x36).f1⟩ : S36)) x35 (wrap64 (x36 + 1)) x127000 x127001 x127002 x127003 x127004 x127005 x127006 x127007 x127008 x132000 x132001 x132002 x132003 x132004 x132005 x132006 x132007 x132008)) else (none)) else (none)) else ((spec_LsSteps.f k x0).bind fun t141 => ((impl_ListRender.f t141 x132000 x132001 x132002 x132003 x132004 x132005 x132006 x132007 x132008).bind fun t144 => ((spec_LsSteps.f k x8).bind fun t145 => ((impl_ListRender.f t145 x127000 x127001 x127002 x127003 x127004 x127005 x127006 x127007 x127008).bind fun t148 => (if t144.toList = t148.toList then ((laws_lsAlive.f).bind fun t149 => (some t149)) else (some false))))))
end
def laws_FnListFormat.f (k : Nat) (l0 : List (S36)) (a1_0 : Int) (a1_1 : ByteArray) (a1_2 : ByteArray) (a1_3 : ByteArray) (a1_4 : ByteArray) (a1_5 : ByteArray) (a1_6 : ByteArray) (a1_7 : ByteArray) (a1_8 : ByteArray) (a2 : Int) : Option (Bool) := (laws_zzFits1.f k l0).bind fun t127 => (if t127 = true then ((laws_zzFits3.f a1_0 a1_1 a1_2 a1_3 a1_4 a1_5 a1_6 a1_7 a1_8).bind fun t128 => (laws_FnListFormat.j0 k l0 a2 (!t128) a1_0 a1_1 a1_2 a1_3 a1_4 a1_5 a1_6 a1_7 a1_8)) else (laws_FnListFormat.j0 k l0 a2 true a1_0 a1_1 a1_2 a1_3 a1_4 a1_5 a1_6 a1_7 a1_8))
theorem laws_FnListFormat.mono_l : ∀ k, (∀ y0 y1 y2 y3 y4 y5 y6 y7 y8 y9 y10 y11, LeO (laws_FnListFormat.j0 k y0 y1 y2 y3 y4 y5 y6 y7 y8 y9 y10 y11) (laws_FnListFormat.j0 (k + 1) y0 y1 y2 y3 y4 y5 y6 y7 y8 y9 y10 y11)) ∧ (∀ y0 y1 y2 y3 y4 y5 y6 y7 y8 y9 y10 y11, LeO (laws_FnListFormat.j1 k y0 y1 y2 y3 y4 y5 y6 y7 y8 y9 y10 y11) (laws_FnListFormat.j1 (k + 1) y0 y1 y2 y3 y4 y5 y6 y7 y8 y9 y10 y11)) ∧ (∀ y0 y1 y2 y3 y4 y5 y6 y7 y8 y9 y10 y11 y12 y13 y14 y15 y16 y17 y18 y19 y20 y21, LeO (laws_FnListFormat.l0 k y0 y1 y2 y3 y4 y5 y6 y7 y8 y9 y10 y11 y12 y13 y14 y15 y16 y17 y18 y19 y20 y21) (laws_FnListFormat.l0 (k + 1) y0 y1 y2 y3 y4 y5 y6 y7 y8 y9 y10 y11 y12 y13 y14 y15 y16 y17 y18 y19 y20 y21))
  | 0 => ⟨fun _ _ _ _ _ _ _ _ _ _ _ _ r h => by simp [laws_FnListFormat.j0] at h, fun _ _ _ _ _ _ _ _ _ _ _ _ r h => by simp [laws_FnListFormat.j1] at h, fun _ _ _ _ _ _ _ _ _ _ _ _ _ _ _ _ _ _ _ _ _ _ r h => by simp [laws_FnListFormat.l0] at h⟩
  | k + 1 => by
    obtain ⟨ih0, ih1, ih2⟩ := laws_FnListFormat.mono_l k
    refine ⟨?_, ?_, ?_⟩
    · intro y0 y1 y2 y3 y4 y5 y6 y7 y8 y9 y10 y11
      unfold laws_FnListFormat.j0
      repeat' first
      | (with_reducible exact ih0 _ _ _ _ _ _ _ _ _ _ _ _)
      | (with_reducible exact ih1 _ _ _ _ _ _ _ _ _ _ _ _)
      | (with_reducible exact ih2 _ _ _ _ _ _ _ _ _ _ _ _ _ _ _ _ _ _ _ _ _ _)
      | (with_reducible exact laws_zzFits1.mono _ _)
      | (with_reducible exact spec_LsRight.mono _ _)
      | (with_reducible exact spec_LsSteps.mono _ _)
      | (with_reducible exact LeO.refl _)
      | (with_reducible exact LeO.none _)
      | (with_reducible refine LeO.ite ?_ ?_)
      | (with_reducible refine LeO.bind ?_ (fun _ => ?_))
      | exact ih0 _ _ _ _ _ _ _ _ _ _ _ _
      | exact ih1 _ _ _ _ _ _ _ _ _ _ _ _
      | exact ih2 _ _ _ _ _ _ _ _ _ _ _ _ _ _ _ _ _ _ _ _ _ _
      | exact laws_zzFits1.mono _ _
      | exact spec_LsRight.mono _ _
      | exact spec_LsSteps.mono _ _
      | exact LeO.none _
      | refine LeO.ite ?_ ?_
      | refine LeO.bind ?_ (fun _ => ?_)
    · intro y0 y1 y2 y3 y4 y5 y6 y7 y8 y9 y10 y11
      unfold laws_FnListFormat.j1
      repeat' first
      | (with_reducible exact ih0 _ _ _ _ _ _ _ _ _ _ _ _)
      | (with_reducible exact ih1 _ _ _ _ _ _ _ _ _ _ _ _)
      | (with_reducible exact ih2 _ _ _ _ _ _ _ _ _ _ _ _ _ _ _ _ _ _ _ _ _ _)
      | (with_reducible exact laws_zzFits1.mono _ _)
      | (with_reducible exact spec_LsRight.mono _ _)
      | (with_reducible exact spec_LsSteps.mono _ _)
      | (with_reducible exact LeO.refl _)
      | (with_reducible exact LeO.none _)
      | (with_reducible refine LeO.ite ?_ ?_)
      | (with_reducible refine LeO.bind ?_ (fun _ => ?_))
      | exact ih0 _ _ _ _ _ _ _ _ _ _ _ _
      | exact ih1 _ _ _ _ _ _ _ _ _ _ _ _
      | exact ih2 _ _ _ _ _ _ _ _ _ _ _ _ _ _ _ _ _ _ _ _ _ _
      | exact laws_zzFits1.mono _ _
      | exact spec_LsRight.mono _ _
      | exact spec_LsSteps.mono _ _
      | exact LeO.none _
      | refine LeO.ite ?_ ?_
      | refine LeO.bind ?_ (fun _ => ?_)
    · intro y0 y1 y2 y3 y4 y5 y6 y7 y8 y9 y10 y11 y12 y13 y14 y15 y16 y17 y18 y19 y20 y21
      unfold laws_FnListFormat.l0
      repeat' first
      | (with_reducible exact ih0 _ _ _ _ _ _ _ _ _ _ _ _)
      | (with_reducible exact ih1 _ _ _ _ _ _ _ _ _ _ _ _)
      | (with_reducible exact ih2 _ _ _ _ _ _ _ _ _ _ _ _ _ _ _ _ _ _ _ _ _ _)
      | (with_reducible exact laws_zzFits1.mono _ _)
      | (with_reducible exact spec_LsRight.mono _ _)
      | (with_reducible exact spec_LsSteps.mono _ _)
      | (with_reducible exact LeO.refl _)
      | (with_reducible exact LeO.none _)
      | (with_reducible refine LeO.ite ?_ ?_)
      | (with_reducible refine LeO.bind ?_ (fun _ => ?_))
      | exact ih0 _ _ _ _ _ _ _ _ _ _ _ _
      | exact ih1 _ _ _ _ _ _ _ _ _ _ _ _
      | exact ih2 _ _ _ _ _ _ _ _ _ _ _ _ _ _ _ _ _ _ _ _ _ _
      | exact laws_zzFits1.mono _ _
      | exact spec_LsRight.mono _ _
      | exact spec_LsSteps.mono _ _
      | exact LeO.none _
      | refine LeO.ite ?_ ?_
      | refine LeO.bind ?_ (fun _ => ?_)
theorem laws_FnListFormat.mono : ∀ a0 a1 a2 a3 a4 a5 a6 a7 a8 a9 a10 k, LeO (laws_FnListFormat.f k a0 a1 a2 a3 a4 a5 a6 a7 a8 a9 a10) (laws_FnListFormat.f (k + 1) a0 a1 a2 a3 a4 a5 a6 a7 a8 a9 a10) := by
  intro a0 a1 a2 a3 a4 a5 a6 a7 a8 a9 a10 k
  obtain ⟨ih0, ih1, ih2⟩ := laws_FnListFormat.mono_l k
  unfold laws_FnListFormat.f
  repeat' first
      | (with_reducible exact ih0 _ _ _ _ _ _ _ _ _ _ _ _)
      | (with_reducible exact ih1 _ _ _ _ _ _ _ _ _ _ _ _)
      | (with_reducible exact ih2 _ _ _ _ _ _ _ _ _ _ _ _ _ _ _ _ _ _ _ _ _ _)
      | (with_reducible exact laws_zzFits1.mono _ _)
      | (with_reducible exact spec_LsRight.mono _ _)
      | (with_reducible exact spec_LsSteps.mono _ _)
      | (with_reducible exact LeO.refl _)
      | (with_reducible exact LeO.none _)
      | (with_reducible refine LeO.ite ?_ ?_)
      | (with_reducible refine LeO.bind ?_ (fun _ => ?_))
      | exact ih0 _ _ _ _ _ _ _ _ _ _ _ _
      | exact ih1 _ _ _ _ _ _ _ _ _ _ _ _
      | exact ih2 _ _ _ _ _ _ _ _ _ _ _ _ _ _ _ _ _ _ _ _ _ _
      | exact laws_zzFits1.mono _ _
      | exact spec_LsRight.mono _ _
      | exact spec_LsSteps.mono _ _
      | exact LeO.none _
      | refine LeO.ite ?_ ?_
      | refine LeO.bind ?_ (fun _ => ?_)
def laws_FnListFormat.T11 : Bool × List (List Nat × List Nat) := (true, [([], []), ([], []), ([], []), ([2], [2]), ([], []), ([], []), ([4, 5], [4, 5]), ([6], [6]), ([7], [7]), ([3, 8], [3, 8]), ([0, 1, 0, 1, 2, 3, 4, 5, 6, 7, 8, 9], [0, 1]), ([10, 0, 1, 2, 3, 4, 5, 6, 7, 8, 9], [10]), ([11, 9, 9, 0, 1, 2, 3, 4, 5, 6, 7, 8, 9], [9, 11])])
def laws_FnListFormat.B11 : List Nat := [0, 0, 0, 4, 0, 0, 48, 112, 240, 508, 1023, 2047, 4095]
theorem laws_FnListFormat.tab11 : rtab .any (opsOf Tryd.f4 11) = laws_FnListFormat.T11 := by kernel_rfl
theorem laws_FnListFormat.bits11 : waitsOk laws_FnListFormat.T11.2 laws_FnListFormat.B11 = true := by kernel_rfl
def laws_FnListFormat.T13 : Bool × List (List Nat × List Nat) := (true, [([], []), ([0], [0]), ([], []), ([1, 2, 1], [1, 2]), ([], []), ([4, 3], [4]), ([], []), ([5, 6, 5], [5, 6]), ([3, 7], [3, 7]), ([8, 7], [8]), ([9, 9], [9]), ([9, 10], [9, 10]), ([11, 10, 0, 1, 2, 3, 4, 5, 6, 7, 8, 9, 10, 11], [11])])
def laws_FnListFormat.B13 : List Nat := [0, 1, 0, 7, 0, 31, 0, 127, 255, 511, 1023, 2047, 4095]
theorem laws_FnListFormat.tab13 : rtab .any (opsOf Tryd.f4 13) = laws_FnListFormat.T13 := by kernel_rfl
theorem laws_FnListFormat.bits13 : waitsOk laws_FnListFormat.T13.2 laws_FnListFormat.B13 = true := by kernel_rfl
set_option maxHeartbeats 8000000 in
set_option maxRecDepth 100000 in
theorem laws_FnListFormat.calls (k : Nat) (A0 : Option Addr) (c0 : Nat) (l0 : List (S36)) (a1_0 : Int) (a1_1 : ByteArray) (a1_2 : ByteArray) (a1_3 : ByteArray) (a1_4 : ByteArray) (a1_5 : ByteArray) (a1_6 : ByteArray) (a1_7 : ByteArray) (a1_8 : ByteArray) (a2 : Int) (r : Bool) (w : World) (hT : FmC.Tb w) (hr0 : Kd.C k36 w A0 l0.length l0) (hc0 : l0.length ≤ c0) (h : laws_FnListFormat.f k l0 a1_0 a1_1 a1_2 a1_3 a1_4 a1_5 a1_6 a1_7 a1_8 a2 = some r) :
    Calls Tryd.prog 4 #[.slice A0 l0.length c0, .agg #[.int .i64 a1_0, .string a1_1, .string a1_2, .string a1_3, .string a1_4, .string a1_5, .string a1_6, .string a1_7, .string a1_8], .int .u8 a2] w fun e w' => e = .returned (.bool r) ∧ Below w.heap.size w w' := by
  have HTW := Aside0.mk hT
  clear hT
  have hu24 := Tryd.underlying24
  have HR0 := Aside0.mk hr0
  have HC0 := Aside0.mk hc0
  clear hr0 hc0
  have HB := Aside0.mk (Below.refl w.heap.size w)
  have H : ((laws_zzFits1.f k l0).bind fun t127 => (if t127 = true then ((laws_zzFits3.f a1_0 a1_1 a1_2 a1_3 a1_4 a1_5 a1_6 a1_7 a1_8).bind fun t128 => (laws_FnListFormat.j0 k l0 a2 (!t128) a1_0 a1_1 a1_2 a1_3 a1_4 a1_5 a1_6 a1_7 a1_8)) else (laws_FnListFormat.j0 k l0 a2 true a1_0 a1_1 a1_2 a1_3 a1_4 a1_5 a1_6 a1_7 a1_8))) = some r := h
  clear h
  have HC4 := Aside0.mk H
  clear H
  go_enter Tryd.func4, Tryd.ntmps4
  go_upto_region 1 with (first | ((with_reducible refine gate_dst (N := 4) rfl ?_); refine box_event ?hg (N := 4) ?hd (cs := #[.int .i64 a1_0, .string a1_1, .string a1_2, .string a1_3, .string a1_4, .string a1_5, .string a1_6, .string a1_7, .string a1_8]) (t := 24) ?hr ?_; (case hd => rfl); (case hg => rfl); (case hr => first | (go_simp; done) | (go_simp; rfl)); intro gb126 hg w5 hbox hb; have n0_ := Aside0.mk (below_step (by repeat (first | (with_reducible first | exact HB.out | apply below_alloc | apply pw_below_drewN | apply below_drew1) | exact HB.out)) hb); have n1_ := Aside0.mk (hbox); have n2_ := Aside0.mk ((by rw [hg]; exact (below_size (by repeat (first | (with_reducible first | exact HB.out | apply below_alloc | apply pw_below_drewN | apply below_drew1) | exact HB.out))) : w.heap.size ≤ gb126)); have n3_ := Aside0.mk ((by rw [hg]; exact (below_size (by repeat (first | (with_reducible first | exact HB.out | apply below_alloc | apply pw_below_drewN | apply below_drew1) | exact HB.out))) : w.heap.size ≤ gb126)); clear HB; have HB := n0_; have BK126 := n1_; have GW126 := n2_; have GE126 := n3_; clear n0_ n1_ n2_ n3_; clear hb hbox hg))
  (try simp only [Act.put, List.setIfInBounds_toArray, List.set_cons_zero, List.set_cons_succ])
  go_cut [17] (fun v17 wc => ∃ (kq : Nat) (x17_3 : Bool), v17 = .bool x17_3 ∧ Aside0 (laws_FnListFormat.j0 kq l0 a2 x17_3 a1_0 a1_1 a1_2 a1_3 a1_4 a1_5 a1_6 a1_7 a1_8 = some r) ∧ Aside0 (kq ≤ k) ∧ Aside0 (wc.heap[gb126]? = some (.cells #[.int .i64 a1_0, .string a1_1, .string a1_2, .string a1_3, .string a1_4, .string a1_5, .string a1_6, .string a1_7, .string a1_8] 24 (0, 0))) ∧ Aside0 (Below w.heap.size w wc))
  case first =>
    have H := HC4.out
    clear HC4
    replace H := Option.bind_eq_some_iff.mp H
    obtain ⟨t127, A60, H⟩ := H
    replace H : (if t127 = true then ((laws_zzFits3.f a1_0 a1_1 a1_2 a1_3 a1_4 a1_5 a1_6 a1_7 a1_8).bind fun t128 => (laws_FnListFormat.j0 k l0 a2 (!t128) a1_0 a1_1 a1_2 a1_3 a1_4 a1_5 a1_6 a1_7 a1_8)) else (laws_FnListFormat.j0 k l0 a2 true a1_0 a1_1 a1_2 a1_3 a1_4 a1_5 a1_6 a1_7 a1_8)) = some r := H
    have A6 := Aside0.mk A60
    clear A60
    by_cases c7 : t127 = true
    · subst c7
      have H1 : ((laws_zzFits3.f a1_0 a1_1 a1_2 a1_3 a1_4 a1_5 a1_6 a1_7 a1_8).bind fun t128 => (laws_FnListFormat.j0 k l0 a2 (!t128) a1_0 a1_1 a1_2 a1_3 a1_4 a1_5 a1_6 a1_7 a1_8)) = some r := by rw [if_pos rfl] at H; exact H
      clear H
      have H := H1
      clear H1
      replace H := Option.bind_eq_some_iff.mp H
      obtain ⟨t128, A80, H⟩ := H
      replace H : (laws_FnListFormat.j0 k l0 a2 (!t128) a1_0 a1_1 a1_2 a1_3 a1_4 a1_5 a1_6 a1_7 a1_8) = some r := H
      have A8 := Aside0.mk A80
      clear A80
      have H' := Aside0.mk H
      clear H
      go_wp2_with (first | ((with_reducible refine gate_callee (f := 5) rfl ?_); refine goesL_ (some 11) rfl rfl Tryd.func5 (by kernel_rfl) rfl #[.slice A0 l0.length c0] rfl (by (try simp only [List.map_toArray, List.map_cons, List.map_nil]); first | done | rfl | (simp only [List.length_drop, List.length_take]; rfl)) ?_; (with_reducible refine (laws_zzFits1.calls k _ _ l0 true _ ?side1 ?side2 A6.out).mono ?_); (case side1 => repeat (first | exact (Kd.C_below HR0.out HB.out) | (with_reducible refine Kd.C_alloc ?_ _) | (with_reducible refine Kd.C_drewN ?_ _) | (with_reducible refine Kd.C_drew ?_))); (case side2 => exact HC0.out); rintro e w9 ⟨rfl, hb⟩; refine ⟨_, rfl, ?_⟩; have n0_ := Aside0.mk (blk_below (g := gb126) (o := .cells #[.int .i64 a1_0, .string a1_1, .string a1_2, .string a1_3, .string a1_4, .string a1_5, .string a1_6, .string a1_7, .string a1_8] 24 (0, 0)) (by (with_reducible repeat (first | refine blk_drewN ?_ _ | refine blk_drew ?_ | refine blk_alloc ?_ _)); exact BK126.out) hb); have n1_ := Aside0.mk (below_step (by repeat (first | (with_reducible first | exact HB.out | apply below_alloc | apply pw_below_drewN | apply below_drew1 | refine below_set ?_ GE126.out) | exact HB.out)) hb); clear BK126; clear HB; have BK126 := n0_; have HB := n1_; clear n0_ n1_; (try clear hb); (try clear hb2); (try clear hk); (try clear hi); have hcz10_0 : w9.cell? ⟨gb126, 0, none⟩ = some (.int .i64 a1_0) := (blk_cell BK126.out 0).trans rfl; have hcz10_1 : w9.cell? ⟨gb126, 1, none⟩ = some (.string a1_1) := (blk_cell BK126.out 1).trans rfl; have hcz10_2 : w9.cell? ⟨gb126, 2, none⟩ = some (.string a1_2) := (blk_cell BK126.out 2).trans rfl; have hcz10_3 : w9.cell? ⟨gb126, 3, none⟩ = some (.string a1_3) := (blk_cell BK126.out 3).trans rfl; have hcz10_4 : w9.cell? ⟨gb126, 4, none⟩ = some (.string a1_4) := (blk_cell BK126.out 4).trans rfl; have hcz10_5 : w9.cell? ⟨gb126, 5, none⟩ = some (.string a1_5) := (blk_cell BK126.out 5).trans rfl; have hcz10_6 : w9.cell? ⟨gb126, 6, none⟩ = some (.string a1_6) := (blk_cell BK126.out 6).trans rfl; have hcz10_7 : w9.cell? ⟨gb126, 7, none⟩ = some (.string a1_7) := (blk_cell BK126.out 7).trans rfl; have hcz10_8 : w9.cell? ⟨gb126, 8, none⟩ = some (.string a1_8) := (blk_cell BK126.out 8).trans rfl; have hfz10_0 := blk_frozen BK126.out 0; have hfz10_1 := blk_frozen BK126.out 1; have hfz10_2 := blk_frozen BK126.out 2; have hfz10_3 := blk_frozen BK126.out 3; have hfz10_4 := blk_frozen BK126.out 4; have hfz10_5 := blk_frozen BK126.out 5; have hfz10_6 := blk_frozen BK126.out 6; have hfz10_7 := blk_frozen BK126.out 7; have hfz10_8 := blk_frozen BK126.out 8) | (go_at_call 6; (with_reducible refine (laws_zzFits3.calls a1_0 a1_1 a1_2 a1_3 a1_4 a1_5 a1_6 a1_7 a1_8 t128 _ A8.out).mono ?_); rintro e w11 ⟨rfl, hb⟩; have n0_ := Aside0.mk (blk_below (g := gb126) (o := .cells #[.int .i64 a1_0, .string a1_1, .string a1_2, .string a1_3, .string a1_4, .string a1_5, .string a1_6, .string a1_7, .string a1_8] 24 (0, 0)) (by (with_reducible repeat (first | refine blk_drewN ?_ _ | refine blk_drew ?_ | refine blk_alloc ?_ _)); exact BK126.out) hb); have n1_ := Aside0.mk (below_step (by repeat (first | (with_reducible first | exact HB.out | apply below_alloc | apply pw_below_drewN | apply below_drew1 | refine below_set ?_ GE126.out) | exact HB.out)) hb); clear BK126; clear HB; have BK126 := n0_; have HB := n1_; clear n0_ n1_; (try clear hb); (try clear hb2); (try clear hk); (try clear hi)))
      go_meet
      case rel => exact ⟨_, (!t128), (by first | rfl | (simp; done) | (simp [*]; done)), H', ⟨by first | omega | exact Nat.le_refl _⟩, ⟨by (with_reducible repeat (first | refine blk_drewN ?_ _ | refine blk_drew ?_ | refine blk_alloc ?_ _)); exact BK126.out⟩, ⟨by repeat (first | (with_reducible first | exact HB.out | apply below_alloc | apply pw_below_drewN | apply below_drew1 | refine below_set ?_ GE126.out) | exact HB.out)⟩⟩
    · replace c7 := Bool.eq_false_iff.mpr c7
      subst c7
      have H1 : (laws_FnListFormat.j0 k l0 a2 true a1_0 a1_1 a1_2 a1_3 a1_4 a1_5 a1_6 a1_7 a1_8) = some r := by rw [if_neg (show ¬ (false = true) by decide)] at H; exact H
      clear H
      have H := H1
      clear H1
      have H' := Aside0.mk H
      clear H
      go_wp2_with (first | ((with_reducible refine gate_callee (f := 5) rfl ?_); refine goesL_ (some 11) rfl rfl Tryd.func5 (by kernel_rfl) rfl #[.slice A0 l0.length c0] rfl (by (try simp only [List.map_toArray, List.map_cons, List.map_nil]); first | done | rfl | (simp only [List.length_drop, List.length_take]; rfl)) ?_; (with_reducible refine (laws_zzFits1.calls k _ _ l0 false _ ?side1 ?side2 A6.out).mono ?_); (case side1 => repeat (first | exact (Kd.C_below HR0.out HB.out) | (with_reducible refine Kd.C_alloc ?_ _) | (with_reducible refine Kd.C_drewN ?_ _) | (with_reducible refine Kd.C_drew ?_))); (case side2 => exact HC0.out); rintro e w12 ⟨rfl, hb⟩; refine ⟨_, rfl, ?_⟩; have n0_ := Aside0.mk (blk_below (g := gb126) (o := .cells #[.int .i64 a1_0, .string a1_1, .string a1_2, .string a1_3, .string a1_4, .string a1_5, .string a1_6, .string a1_7, .string a1_8] 24 (0, 0)) (by (with_reducible repeat (first | refine blk_drewN ?_ _ | refine blk_drew ?_ | refine blk_alloc ?_ _)); exact BK126.out) hb); have n1_ := Aside0.mk (below_step (by repeat (first | (with_reducible first | exact HB.out | apply below_alloc | apply pw_below_drewN | apply below_drew1 | refine below_set ?_ GE126.out) | exact HB.out)) hb); clear BK126; clear HB; have BK126 := n0_; have HB := n1_; clear n0_ n1_; (try clear hb); (try clear hb2); (try clear hk); (try clear hi)))
      go_meet
      case rel => exact ⟨_, (true), (by first | rfl | (simp; done) | (simp [*]; done)), H', ⟨by first | omega | exact Nat.le_refl _⟩, ⟨by (with_reducible repeat (first | refine blk_drewN ?_ _ | refine blk_drew ?_ | refine blk_alloc ?_ _)); exact BK126.out⟩, ⟨by repeat (first | (with_reducible first | exact HB.out | apply below_alloc | apply pw_below_drewN | apply below_drew1 | refine below_set ?_ GE126.out) | exact HB.out)⟩⟩
  case rest =>
    clear HC4
    try clear p2
    try clear c4
    try clear c5
    try clear c7
    try clear hcz10_0
    try clear hcz10_1
    try clear hcz10_2
    try clear hcz10_3
    try clear hcz10_4
    try clear hcz10_5
    try clear hcz10_6
    try clear hcz10_7
    try clear hcz10_8
    try clear hfz10_0
    try clear hfz10_1
    try clear hfz10_2
    try clear hfz10_3
    try clear hfz10_4
    try clear hfz10_5
    try clear hfz10_6
    try clear hfz10_7
    try clear hfz10_8
    obtain ⟨kq, x17_3, rfl, HA, HJ3, BK126, HB⟩ := hcut
    cases kq with
    | zero => exact absurd HA.out (by simp [laws_FnListFormat.j0])
    | succ kj3 =>
      have H := HA.out
      clear HA
      simp only [laws_FnListFormat.j0] at H
      by_cases c13 : x17_3 = true
      · subst c13
        have H1 : (some true) = some r := by rw [if_pos rfl] at H; exact H
        clear H
        have H := H1
        clear H1
        obtain rfl := Option.some.inj H
        go_wp2
        go_ret
        exact ⟨by first | rfl | (simp [errW_none, errW_some] <;> rfl) | (simp [*, errW_none, errW_some] <;> rfl), by repeat (first | (with_reducible first | exact HB.out | apply below_alloc | apply pw_below_drewN | apply below_drew1 | refine below_set ?_ GE126.out) | exact HB.out)⟩
      · replace c13 := Bool.eq_false_iff.mpr c13
        subst c13
        have H1 : ((spec_LsRight.f kj3 l0).bind fun t129 => (if t129 = true then ((spec_LsStyled.f a1_0 a1_1 a1_2 a1_3 a1_4 a1_5 a1_6 a1_7 a1_8).bind fun t130 => (laws_FnListFormat.j1 kj3 l0 a2 (!t130) a1_0 a1_1 a1_2 a1_3 a1_4 a1_5 a1_6 a1_7 a1_8)) else (laws_FnListFormat.j1 kj3 l0 a2 true a1_0 a1_1 a1_2 a1_3 a1_4 a1_5 a1_6 a1_7 a1_8))) = some r := by rw [if_neg (show ¬ (false = true) by decide)] at H; exact H
        clear H
        have H := H1
        clear H1
        have HC14 := Aside0.mk H
        clear H
        go_upto_region 3 with (fail)
        go_cut [25] (fun v25 wc => ∃ (kq : Nat) (x25_13 : Bool), v25 = .bool x25_13 ∧ Aside0 (laws_FnListFormat.j1 kq l0 a2 x25_13 a1_0 a1_1 a1_2 a1_3 a1_4 a1_5 a1_6 a1_7 a1_8 = some r) ∧ Aside0 (kq ≤ kj3) ∧ Aside0 (wc.heap[gb126]? = some (.cells #[.int .i64 a1_0, .string a1_1, .string a1_2, .string a1_3, .string a1_4, .string a1_5, .string a1_6, .string a1_7, .string a1_8] 24 (0, 0))) ∧ Aside0 (Below w.heap.size w wc))
        case first =>
          have H := HC14.out
          clear HC14
          replace H := Option.bind_eq_some_iff.mp H
          obtain ⟨t129, A150, H⟩ := H
          replace H : (if t129 = true then ((spec_LsStyled.f a1_0 a1_1 a1_2 a1_3 a1_4 a1_5 a1_6 a1_7 a1_8).bind fun t130 => (laws_FnListFormat.j1 kj3 l0 a2 (!t130) a1_0 a1_1 a1_2 a1_3 a1_4 a1_5 a1_6 a1_7 a1_8)) else (laws_FnListFormat.j1 kj3 l0 a2 true a1_0 a1_1 a1_2 a1_3 a1_4 a1_5 a1_6 a1_7 a1_8)) = some r := H
          have A15 := Aside0.mk A150
          clear A150
          by_cases c16 : t129 = true
          · subst c16
            have H1 : ((spec_LsStyled.f a1_0 a1_1 a1_2 a1_3 a1_4 a1_5 a1_6 a1_7 a1_8).bind fun t130 => (laws_FnListFormat.j1 kj3 l0 a2 (!t130) a1_0 a1_1 a1_2 a1_3 a1_4 a1_5 a1_6 a1_7 a1_8)) = some r := by rw [if_pos rfl] at H; exact H
            clear H
            have H := H1
            clear H1
            replace H := Option.bind_eq_some_iff.mp H
            obtain ⟨t130, A170, H⟩ := H
            replace H : (laws_FnListFormat.j1 kj3 l0 a2 (!t130) a1_0 a1_1 a1_2 a1_3 a1_4 a1_5 a1_6 a1_7 a1_8) = some r := H
            have A17 := Aside0.mk A170
            clear A170
            have H' := Aside0.mk H
            clear H
            go_wp2_with (first | ((with_reducible refine gate_callee (f := 7) rfl ?_); refine goesL_ (some 19) rfl rfl Tryd.func7 (by kernel_rfl) rfl #[.slice A0 l0.length c0] rfl (by (try simp only [List.map_toArray, List.map_cons, List.map_nil]); first | done | rfl | (simp only [List.length_drop, List.length_take]; rfl)) ?_; (with_reducible refine (spec_LsRight.calls kj3 _ _ l0 true _ ?side1 ?side2 A15.out).mono ?_); (case side1 => repeat (first | exact (Kd.C_below HR0.out HB.out) | (with_reducible refine Kd.C_alloc ?_ _) | (with_reducible refine Kd.C_drewN ?_ _) | (with_reducible refine Kd.C_drew ?_))); (case side2 => exact HC0.out); rintro e w18 ⟨rfl, hb⟩; refine ⟨_, rfl, ?_⟩; have n0_ := Aside0.mk (blk_below (g := gb126) (o := .cells #[.int .i64 a1_0, .string a1_1, .string a1_2, .string a1_3, .string a1_4, .string a1_5, .string a1_6, .string a1_7, .string a1_8] 24 (0, 0)) (by (with_reducible repeat (first | refine blk_drewN ?_ _ | refine blk_drew ?_ | refine blk_alloc ?_ _)); exact BK126.out) hb); have n1_ := Aside0.mk (below_step (by repeat (first | (with_reducible first | exact HB.out | apply below_alloc | apply pw_below_drewN | apply below_drew1 | refine below_set ?_ GE126.out) | exact HB.out)) hb); clear BK126; clear HB; have BK126 := n0_; have HB := n1_; clear n0_ n1_; (try clear hb); (try clear hb2); (try clear hk); (try clear hi); have hcz19_0 : w18.cell? ⟨gb126, 0, none⟩ = some (.int .i64 a1_0) := (blk_cell BK126.out 0).trans rfl; have hcz19_1 : w18.cell? ⟨gb126, 1, none⟩ = some (.string a1_1) := (blk_cell BK126.out 1).trans rfl; have hcz19_2 : w18.cell? ⟨gb126, 2, none⟩ = some (.string a1_2) := (blk_cell BK126.out 2).trans rfl; have hcz19_3 : w18.cell? ⟨gb126, 3, none⟩ = some (.string a1_3) := (blk_cell BK126.out 3).trans rfl; have hcz19_4 : w18.cell? ⟨gb126, 4, none⟩ = some (.string a1_4) := (blk_cell BK126.out 4).trans rfl; have hcz19_5 : w18.cell? ⟨gb126, 5, none⟩ = some (.string a1_5) := (blk_cell BK126.out 5).trans rfl; have hcz19_6 : w18.cell? ⟨gb126, 6, none⟩ = some (.string a1_6) := (blk_cell BK126.out 6).trans rfl; have hcz19_7 : w18.cell? ⟨gb126, 7, none⟩ = some (.string a1_7) := (blk_cell BK126.out 7).trans rfl; have hcz19_8 : w18.cell? ⟨gb126, 8, none⟩ = some (.string a1_8) := (blk_cell BK126.out 8).trans rfl; have hfz19_0 := blk_frozen BK126.out 0; have hfz19_1 := blk_frozen BK126.out 1; have hfz19_2 := blk_frozen BK126.out 2; have hfz19_3 := blk_frozen BK126.out 3; have hfz19_4 := blk_frozen BK126.out 4; have hfz19_5 := blk_frozen BK126.out 5; have hfz19_6 := blk_frozen BK126.out 6; have hfz19_7 := blk_frozen BK126.out 7; have hfz19_8 := blk_frozen BK126.out 8) | (go_at_call 8; (with_reducible refine (spec_LsStyled.calls a1_0 a1_1 a1_2 a1_3 a1_4 a1_5 a1_6 a1_7 a1_8 t130 _ A17.out).mono ?_); rintro e w20 ⟨rfl, hb⟩; have n0_ := Aside0.mk (blk_below (g := gb126) (o := .cells #[.int .i64 a1_0, .string a1_1, .string a1_2, .string a1_3, .string a1_4, .string a1_5, .string a1_6, .string a1_7, .string a1_8] 24 (0, 0)) (by (with_reducible repeat (first | refine blk_drewN ?_ _ | refine blk_drew ?_ | refine blk_alloc ?_ _)); exact BK126.out) hb); have n1_ := Aside0.mk (below_step (by repeat (first | (with_reducible first | exact HB.out | apply below_alloc | apply pw_below_drewN | apply below_drew1 | refine below_set ?_ GE126.out) | exact HB.out)) hb); clear BK126; clear HB; have BK126 := n0_; have HB := n1_; clear n0_ n1_; (try clear hb); (try clear hb2); (try clear hk); (try clear hi)))
            go_meet
            case rel => exact ⟨_, (!t130), (by first | rfl | (simp; done) | (simp [*]; done)), H', ⟨by have := HJ3.out; first | omega | exact Nat.le_refl _⟩, ⟨by (with_reducible repeat (first | refine blk_drewN ?_ _ | refine blk_drew ?_ | refine blk_alloc ?_ _)); exact BK126.out⟩, ⟨by repeat (first | (with_reducible first | exact HB.out | apply below_alloc | apply pw_below_drewN | apply below_drew1 | refine below_set ?_ GE126.out) | exact HB.out)⟩⟩
          · replace c16 := Bool.eq_false_iff.mpr c16
            subst c16
            have H1 : (laws_FnListFormat.j1 kj3 l0 a2 true a1_0 a1_1 a1_2 a1_3 a1_4 a1_5 a1_6 a1_7 a1_8) = some r := by rw [if_neg (show ¬ (false = true) by decide)] at H; exact H
            clear H
            have H := H1
            clear H1
            have H' := Aside0.mk H
            clear H
            go_wp2_with (first | ((with_reducible refine gate_callee (f := 7) rfl ?_); refine goesL_ (some 19) rfl rfl Tryd.func7 (by kernel_rfl) rfl #[.slice A0 l0.length c0] rfl (by (try simp only [List.map_toArray, List.map_cons, List.map_nil]); first | done | rfl | (simp only [List.length_drop, List.length_take]; rfl)) ?_; (with_reducible refine (spec_LsRight.calls kj3 _ _ l0 false _ ?side1 ?side2 A15.out).mono ?_); (case side1 => repeat (first | exact (Kd.C_below HR0.out HB.out) | (with_reducible refine Kd.C_alloc ?_ _) | (with_reducible refine Kd.C_drewN ?_ _) | (with_reducible refine Kd.C_drew ?_))); (case side2 => exact HC0.out); rintro e w21 ⟨rfl, hb⟩; refine ⟨_, rfl, ?_⟩; have n0_ := Aside0.mk (blk_below (g := gb126) (o := .cells #[.int .i64 a1_0, .string a1_1, .string a1_2, .string a1_3, .string a1_4, .string a1_5, .string a1_6, .string a1_7, .string a1_8] 24 (0, 0)) (by (with_reducible repeat (first | refine blk_drewN ?_ _ | refine blk_drew ?_ | refine blk_alloc ?_ _)); exact BK126.out) hb); have n1_ := Aside0.mk (below_step (by repeat (first | (with_reducible first | exact HB.out | apply below_alloc | apply pw_below_drewN | apply below_drew1 | refine below_set ?_ GE126.out) | exact HB.out)) hb); clear BK126; clear HB; have BK126 := n0_; have HB := n1_; clear n0_ n1_; (try clear hb); (try clear hb2); (try clear hk); (try clear hi)))
            go_meet
            case rel => exact ⟨_, (true), (by first | rfl | (simp; done) | (simp [*]; done)), H', ⟨by have := HJ3.out; first | omega | exact Nat.le_refl _⟩, ⟨by (with_reducible repeat (first | refine blk_drewN ?_ _ | refine blk_drew ?_ | refine blk_alloc ?_ _)); exact BK126.out⟩, ⟨by repeat (first | (with_reducible first | exact HB.out | apply below_alloc | apply pw_below_drewN | apply below_drew1 | refine below_set ?_ GE126.out) | exact HB.out)⟩⟩
        case rest =>
          clear HC14
          try clear c1
          try clear p2
          try clear c4
          try clear c5
          try clear c7
          try clear c13
          try clear c16
          try clear hcz10_0
          try clear hcz10_1
          try clear hcz10_2
          try clear hcz10_3
          try clear hcz10_4
          try clear hcz10_5
          try clear hcz10_6
          try clear hcz10_7
          try clear hcz10_8
          try clear hcz19_0
          try clear hcz19_1
          try clear hcz19_2
          try clear hcz19_3
          try clear hcz19_4
          try clear hcz19_5
          try clear hcz19_6
          try clear hcz19_7
          try clear hcz19_8
          try clear hfz10_0
          try clear hfz10_1
          try clear hfz10_2
          try clear hfz10_3
          try clear hfz10_4
          try clear hfz10_5
          try clear hfz10_6
          try clear hfz10_7
          try clear hfz10_8
          try clear hfz19_0
          try clear hfz19_1
          try clear hfz19_2
          try clear hfz19_3
          try clear hfz19_4
          try clear hfz19_5
          try clear hfz19_6
          try clear hfz19_7
          try clear hfz19_8
          try clear p2
          obtain ⟨kq, x25_13, rfl, HA, HJ13, BK126, HB⟩ := hcut
          cases kq with
          | zero => exact absurd HA.out (by simp [laws_FnListFormat.j1])
          | succ kj13 =>
            have H := HA.out
            clear HA
            simp only [laws_FnListFormat.j1] at H
            by_cases c22 : x25_13 = true
            · subst c22
              have H1 : (some true) = some r := by rw [if_pos rfl] at H; exact H
              clear H
              have H := H1
              clear H1
              obtain rfl := Option.some.inj H
              go_wp2
              go_ret
              exact ⟨by first | rfl | (simp [errW_none, errW_some] <;> rfl) | (simp [*, errW_none, errW_some] <;> rfl), by repeat (first | (with_reducible first | exact HB.out | apply below_alloc | apply pw_below_drewN | apply below_drew1 | refine below_set ?_ GE126.out) | exact HB.out)⟩
            · replace c22 := Bool.eq_false_iff.mpr c22
              subst c22
              have H1 : ((some (([] : List (S36)) : List (S36))).bind fun y132 => (if y132.length + l0.length < 5864062014805 then ((some (y132 ++ l0 : List (S36))).bind fun y135 => (laws_FnListFormat.l0 kj13 l0 y135 (y135.length : Int) 0 a1_0 a1_1 a1_2 a1_3 a1_4 a1_5 a1_6 a1_7 a1_8 (wrap64 (Int.tmod a2 4)) a1_1 a1_2 a1_3 a1_4 a1_5 a1_6 a1_7 a1_8)) else (none))) = some r := by rw [if_neg (show ¬ (false = true) by decide)] at H; exact H
              clear H
              have H := H1
              clear H1
              obtain ⟨y132, hy132⟩ : ∃ y_ : List (S36), y_ = (([] : List (S36))) := ⟨_, rfl⟩
              replace H : (if y132.length + l0.length < 5864062014805 then ((some (y132 ++ l0 : List (S36))).bind fun y135 => (laws_FnListFormat.l0 kj13 l0 y135 (y135.length : Int) 0 a1_0 a1_1 a1_2 a1_3 a1_4 a1_5 a1_6 a1_7 a1_8 (wrap64 (Int.tmod a2 4)) a1_1 a1_2 a1_3 a1_4 a1_5 a1_6 a1_7 a1_8)) else (none)) = some r := by first | (rw [hy132]; with_reducible exact H) | (have H2_ := (Option.bind_some _ _).symm.trans H; rw [hy132]; with_reducible exact H2_) | (have H2_ := (Option.bind_some _ _).symm.trans H; with_reducible exact H2_) | with_reducible exact H | (rw [hy132]; exact H) | exact H
              have Ny132 := Aside0.mk hy132
              clear hy132
              by_cases c23 : y132.length + l0.length < 5864062014805
              · rw [if_pos c23] at H
                have LMc23 := Aside0.mk c23
                clear c23
                obtain ⟨y135, hy135⟩ : ∃ y_ : List (S36), y_ = (y132 ++ l0) := ⟨_, rfl⟩
                replace H : (laws_FnListFormat.l0 kj13 l0 y135 (y135.length : Int) 0 a1_0 a1_1 a1_2 a1_3 a1_4 a1_5 a1_6 a1_7 a1_8 (wrap64 (Int.tmod a2 4)) a1_1 a1_2 a1_3 a1_4 a1_5 a1_6 a1_7 a1_8) = some r := by first | (rw [hy135]; with_reducible exact H) | (have H2_ := (Option.bind_some _ _).symm.trans H; rw [hy135]; with_reducible exact H2_) | (have H2_ := (Option.bind_some _ _).symm.trans H; with_reducible exact H2_) | with_reducible exact H | (rw [hy135]; exact H) | exact H
                have Ny135 := Aside0.mk hy135
                clear hy135
                have H' := Aside0.mk H
                clear H
                have hcz24_0 : wc.cell? ⟨gb126, 0, none⟩ = some (.int .i64 a1_0) := (blk_cell BK126.out 0).trans rfl
                have hcz24_1 : wc.cell? ⟨gb126, 1, none⟩ = some (.string a1_1) := (blk_cell BK126.out 1).trans rfl
                have hcz24_2 : wc.cell? ⟨gb126, 2, none⟩ = some (.string a1_2) := (blk_cell BK126.out 2).trans rfl
                have hcz24_3 : wc.cell? ⟨gb126, 3, none⟩ = some (.string a1_3) := (blk_cell BK126.out 3).trans rfl
                have hcz24_4 : wc.cell? ⟨gb126, 4, none⟩ = some (.string a1_4) := (blk_cell BK126.out 4).trans rfl
                have hcz24_5 : wc.cell? ⟨gb126, 5, none⟩ = some (.string a1_5) := (blk_cell BK126.out 5).trans rfl
                have hcz24_6 : wc.cell? ⟨gb126, 6, none⟩ = some (.string a1_6) := (blk_cell BK126.out 6).trans rfl
                have hcz24_7 : wc.cell? ⟨gb126, 7, none⟩ = some (.string a1_7) := (blk_cell BK126.out 7).trans rfl
                have hcz24_8 : wc.cell? ⟨gb126, 8, none⟩ = some (.string a1_8) := (blk_cell BK126.out 8).trans rfl
                have hfz24_0 := blk_frozen BK126.out 0
                have hfz24_1 := blk_frozen BK126.out 1
                have hfz24_2 := blk_frozen BK126.out 2
                have hfz24_3 := blk_frozen BK126.out 3
                have hfz24_4 := blk_frozen BK126.out 4
                have hfz24_5 := blk_frozen BK126.out 5
                have hfz24_6 := blk_frozen BK126.out 6
                have hfz24_7 := blk_frozen BK126.out 7
                have hfz24_8 := blk_frozen BK126.out 8
                go_wp2_with (first | ((with_reducible refine gate_dst (N := 7) rfl ?_); refine box_event ?hg (N := 7) ?hd (cs := #[.int .i64 0, .string (⟨#[]⟩ : ByteArray), .string (⟨#[]⟩ : ByteArray), .string (⟨#[]⟩ : ByteArray), .string (⟨#[]⟩ : ByteArray), .string (⟨#[]⟩ : ByteArray), .string (⟨#[]⟩ : ByteArray), .string (⟨#[]⟩ : ByteArray), .string (⟨#[]⟩ : ByteArray)]) (t := 24) ?hr ?_; (case hd => rfl); (case hg => rfl); (case hr => first | (go_simp; done) | (go_simp; rfl)); intro gb131 hg w25 hbox hb; have n0_ := Aside0.mk (blk_below (g := gb126) (o := .cells #[.int .i64 a1_0, .string a1_1, .string a1_2, .string a1_3, .string a1_4, .string a1_5, .string a1_6, .string a1_7, .string a1_8] 24 (0, 0)) (by (with_reducible repeat (first | refine blk_drewN ?_ _ | refine blk_drew ?_ | refine blk_alloc ?_ _)); exact BK126.out) hb); have n1_ := Aside0.mk (below_step (by repeat (first | (with_reducible first | exact HB.out | apply below_alloc | apply pw_below_drewN | apply below_drew1 | refine below_set ?_ GE126.out) | exact HB.out)) hb); have n2_ := Aside0.mk (hbox); have n3_ := Aside0.mk ((by rw [hg]; exact (below_size (by repeat (first | (with_reducible first | exact HB.out | apply below_alloc | apply pw_below_drewN | apply below_drew1 | refine below_set ?_ GE126.out) | exact HB.out))) : w.heap.size ≤ gb131)); have n4_ := Aside0.mk ((by rw [hg]; exact (below_size (by repeat (first | (with_reducible first | exact HB.out | apply below_alloc | apply pw_below_drewN | apply below_drew1 | refine below_set ?_ GE126.out) | exact HB.out))) : w.heap.size ≤ gb131)); have n5_ := Aside0.mk ((by rw [hg]; exact Nat.ne_of_lt (blk_lt (g := gb126) (o := .cells #[.int .i64 a1_0, .string a1_1, .string a1_2, .string a1_3, .string a1_4, .string a1_5, .string a1_6, .string a1_7, .string a1_8] 24 (0, 0)) (by (with_reducible repeat (first | refine blk_drewN ?_ _ | refine blk_drew ?_ | refine blk_alloc ?_ _)); exact BK126.out)) : gb126 ≠ gb131)); have n6_ := Aside0.mk ((by rw [hg]; exact Nat.ne_of_gt (blk_lt (g := gb126) (o := .cells #[.int .i64 a1_0, .string a1_1, .string a1_2, .string a1_3, .string a1_4, .string a1_5, .string a1_6, .string a1_7, .string a1_8] 24 (0, 0)) (by (with_reducible repeat (first | refine blk_drewN ?_ _ | refine blk_drew ?_ | refine blk_alloc ?_ _)); exact BK126.out)) : gb131 ≠ gb126)); clear BK126; clear HB; have BK126 := n0_; have HB := n1_; have BK131 := n2_; have GW131 := n3_; have GE131 := n4_; have NB126_131 := n5_; have NB131_126 := n6_; clear n0_ n1_ n2_ n3_ n4_ n5_ n6_; clear hb hbox hg; have hnb26 := NB131_126.out; have hnc26 := NB126_131.out; have hcz27_0 : w25.cell? ⟨gb131, 0, none⟩ = some (.int .i64 0) := (blk_cell BK131.out 0).trans rfl; have hcz27_1 : w25.cell? ⟨gb131, 1, none⟩ = some (.string (⟨#[]⟩ : ByteArray)) := (blk_cell BK131.out 1).trans rfl; have hcz27_2 : w25.cell? ⟨gb131, 2, none⟩ = some (.string (⟨#[]⟩ : ByteArray)) := (blk_cell BK131.out 2).trans rfl; have hcz27_3 : w25.cell? ⟨gb131, 3, none⟩ = some (.string (⟨#[]⟩ : ByteArray)) := (blk_cell BK131.out 3).trans rfl; have hcz27_4 : w25.cell? ⟨gb131, 4, none⟩ = some (.string (⟨#[]⟩ : ByteArray)) := (blk_cell BK131.out 4).trans rfl; have hcz27_5 : w25.cell? ⟨gb131, 5, none⟩ = some (.string (⟨#[]⟩ : ByteArray)) := (blk_cell BK131.out 5).trans rfl; have hcz27_6 : w25.cell? ⟨gb131, 6, none⟩ = some (.string (⟨#[]⟩ : ByteArray)) := (blk_cell BK131.out 6).trans rfl; have hcz27_7 : w25.cell? ⟨gb131, 7, none⟩ = some (.string (⟨#[]⟩ : ByteArray)) := (blk_cell BK131.out 7).trans rfl; have hcz27_8 : w25.cell? ⟨gb131, 8, none⟩ = some (.string (⟨#[]⟩ : ByteArray)) := (blk_cell BK131.out 8).trans rfl; have hfz27_0 := blk_frozen BK131.out 0; have hfz27_1 := blk_frozen BK131.out 1; have hfz27_2 := blk_frozen BK131.out 2; have hfz27_3 := blk_frozen BK131.out 3; have hfz27_4 := blk_frozen BK131.out 4; have hfz27_5 := blk_frozen BK131.out 5; have hfz27_6 := blk_frozen BK131.out 6; have hfz27_7 := blk_frozen BK131.out 7; have hfz27_8 := blk_frozen BK131.out 8) | ((with_reducible refine gate_dst (N := 31) rfl ?_); refine Kd.R_lit k36 _ 36 ?hg (N := 31) ?hd (xs := ([] : List (S36))) (inner := []) (ok := fun _ => True) (okp := fun _ => True) ?hr ?hp (fun _ hk => hk) trivial (Below.refl _ _) (Nat.le_refl _) (by simp) ?_; (case hd => rfl); (case hg => rfl); (case hr => first | (go_simp; done) | (go_simp; rfl)); (case hp => exact (Reps.none _ _)); intro v133 w28 ho29 hb hg_ hnew_; clear hg_ hnew_; (first | rw [← Ny132.out] at ho29 | (simp only [Int.reduceToNat] at ho29; rw [← Ny132.out] at ho29)); have n0_ := Aside0.mk (Kd.R_lower ho29 (below_size (by repeat (first | (with_reducible first | exact HB.out | apply below_alloc | apply pw_below_drewN | apply below_drew1 | refine below_set ?_ GE126.out | refine below_set ?_ GE131.out) | exact HB.out)))); have n1_ := Aside0.mk (blk_below (g := gb126) (o := .cells #[.int .i64 a1_0, .string a1_1, .string a1_2, .string a1_3, .string a1_4, .string a1_5, .string a1_6, .string a1_7, .string a1_8] 24 (0, 0)) (by (with_reducible repeat (first | refine blk_drewN ?_ _ | refine blk_drew ?_ | refine blk_alloc ?_ _)); refine blk_far ?_ NB126_131.out _; (with_reducible repeat (first | refine blk_drewN ?_ _ | refine blk_drew ?_ | refine blk_alloc ?_ _)); refine blk_far ?_ NB126_131.out _; (with_reducible repeat (first | refine blk_drewN ?_ _ | refine blk_drew ?_ | refine blk_alloc ?_ _)); refine blk_far ?_ NB126_131.out _; (with_reducible repeat (first | refine blk_drewN ?_ _ | refine blk_drew ?_ | refine blk_alloc ?_ _)); refine blk_far ?_ NB126_131.out _; (with_reducible repeat (first | refine blk_drewN ?_ _ | refine blk_drew ?_ | refine blk_alloc ?_ _)); refine blk_far ?_ NB126_131.out _; (with_reducible repeat (first | refine blk_drewN ?_ _ | refine blk_drew ?_ | refine blk_alloc ?_ _)); refine blk_far ?_ NB126_131.out _; (with_reducible repeat (first | refine blk_drewN ?_ _ | refine blk_drew ?_ | refine blk_alloc ?_ _)); refine blk_far ?_ NB126_131.out _; (with_reducible repeat (first | refine blk_drewN ?_ _ | refine blk_drew ?_ | refine blk_alloc ?_ _)); refine blk_far ?_ NB126_131.out _; (with_reducible repeat (first | refine blk_drewN ?_ _ | refine blk_drew ?_ | refine blk_alloc ?_ _)); refine blk_far ?_ NB126_131.out _; (with_reducible repeat (first | refine blk_drewN ?_ _ | refine blk_drew ?_ | refine blk_alloc ?_ _)); refine blk_far ?_ NB126_131.out _; (with_reducible repeat (first | refine blk_drewN ?_ _ | refine blk_drew ?_ | refine blk_alloc ?_ _)); exact BK126.out) hb); have n2_ := Aside0.mk (blk_below (g := gb131) (o := .cells #[.int .i64 (wrap64 (Int.tmod a2 4)), .string a1_1, .string a1_2, .string a1_3, .string a1_4, .string a1_5, .string a1_6, .string a1_7, .string a1_8] 24 (0, 0)) (by (with_reducible repeat (first | refine blk_drewN ?_ _ | refine blk_drew ?_ | refine blk_alloc ?_ _)); refine blk_put (cs := #[.int .i64 a1_0, .string a1_1, .string a1_2, .string a1_3, .string a1_4, .string a1_5, .string a1_6, .string a1_7, .string a1_8]) ?_ 0 _ rfl; (with_reducible repeat (first | refine blk_drewN ?_ _ | refine blk_drew ?_ | refine blk_alloc ?_ _)); refine blk_put (cs := #[.int .i64 a1_0, .string a1_1, .string a1_2, .string a1_3, .string a1_4, .string a1_5, .string a1_6, .string a1_7, .string (⟨#[]⟩ : ByteArray)]) ?_ 8 _ rfl; (with_reducible repeat (first | refine blk_drewN ?_ _ | refine blk_drew ?_ | refine blk_alloc ?_ _)); refine blk_put (cs := #[.int .i64 a1_0, .string a1_1, .string a1_2, .string a1_3, .string a1_4, .string a1_5, .string a1_6, .string (⟨#[]⟩ : ByteArray), .string (⟨#[]⟩ : ByteArray)]) ?_ 7 _ rfl; (with_reducible repeat (first | refine blk_drewN ?_ _ | refine blk_drew ?_ | refine blk_alloc ?_ _)); refine blk_put (cs := #[.int .i64 a1_0, .string a1_1, .string a1_2, .string a1_3, .string a1_4, .string a1_5, .string (⟨#[]⟩ : ByteArray), .string (⟨#[]⟩ : ByteArray), .string (⟨#[]⟩ : ByteArray)]) ?_ 6 _ rfl; (with_reducible repeat (first | refine blk_drewN ?_ _ | refine blk_drew ?_ | refine blk_alloc ?_ _)); refine blk_put (cs := #[.int .i64 a1_0, .string a1_1, .string a1_2, .string a1_3, .string a1_4, .string (⟨#[]⟩ : ByteArray), .string (⟨#[]⟩ : ByteArray), .string (⟨#[]⟩ : ByteArray), .string (⟨#[]⟩ : ByteArray)]) ?_ 5 _ rfl; (with_reducible repeat (first | refine blk_drewN ?_ _ | refine blk_drew ?_ | refine blk_alloc ?_ _)); refine blk_put (cs := #[.int .i64 a1_0, .string a1_1, .string a1_2, .string a1_3, .string (⟨#[]⟩ : ByteArray), .string (⟨#[]⟩ : ByteArray), .string (⟨#[]⟩ : ByteArray), .string (⟨#[]⟩ : ByteArray), .string (⟨#[]⟩ : ByteArray)]) ?_ 4 _ rfl; (with_reducible repeat (first | refine blk_drewN ?_ _ | refine blk_drew ?_ | refine blk_alloc ?_ _)); refine blk_put (cs := #[.int .i64 a1_0, .string a1_1, .string a1_2, .string (⟨#[]⟩ : ByteArray), .string (⟨#[]⟩ : ByteArray), .string (⟨#[]⟩ : ByteArray), .string (⟨#[]⟩ : ByteArray), .string (⟨#[]⟩ : ByteArray), .string (⟨#[]⟩ : ByteArray)]) ?_ 3 _ rfl; (with_reducible repeat (first | refine blk_drewN ?_ _ | refine blk_drew ?_ | refine blk_alloc ?_ _)); refine blk_put (cs := #[.int .i64 a1_0, .string a1_1, .string (⟨#[]⟩ : ByteArray), .string (⟨#[]⟩ : ByteArray), .string (⟨#[]⟩ : ByteArray), .string (⟨#[]⟩ : ByteArray), .string (⟨#[]⟩ : ByteArray), .string (⟨#[]⟩ : ByteArray), .string (⟨#[]⟩ : ByteArray)]) ?_ 2 _ rfl; (with_reducible repeat (first | refine blk_drewN ?_ _ | refine blk_drew ?_ | refine blk_alloc ?_ _)); refine blk_put (cs := #[.int .i64 a1_0, .string (⟨#[]⟩ : ByteArray), .string (⟨#[]⟩ : ByteArray), .string (⟨#[]⟩ : ByteArray), .string (⟨#[]⟩ : ByteArray), .string (⟨#[]⟩ : ByteArray), .string (⟨#[]⟩ : ByteArray), .string (⟨#[]⟩ : ByteArray), .string (⟨#[]⟩ : ByteArray)]) ?_ 1 _ rfl; (with_reducible repeat (first | refine blk_drewN ?_ _ | refine blk_drew ?_ | refine blk_alloc ?_ _)); refine blk_put (cs := #[.int .i64 0, .string (⟨#[]⟩ : ByteArray), .string (⟨#[]⟩ : ByteArray), .string (⟨#[]⟩ : ByteArray), .string (⟨#[]⟩ : ByteArray), .string (⟨#[]⟩ : ByteArray), .string (⟨#[]⟩ : ByteArray), .string (⟨#[]⟩ : ByteArray), .string (⟨#[]⟩ : ByteArray)]) ?_ 0 _ rfl; (with_reducible repeat (first | refine blk_drewN ?_ _ | refine blk_drew ?_ | refine blk_alloc ?_ _)); exact BK131.out) hb); have n3_ := Aside0.mk (below_step (by repeat (first | (with_reducible first | exact HB.out | apply below_alloc | apply pw_below_drewN | apply below_drew1 | refine below_set ?_ GE126.out | refine below_set ?_ GE131.out) | exact HB.out)) hb); clear BK126; clear BK131; clear HB; have HO134 := n0_; have BK126 := n1_; have BK131 := n2_; have HB := n3_; clear n0_ n1_ n2_ n3_; clear hb ho29) | ((with_reducible refine gate_builtin (b := .append) (xs := #[.tmp 31, .tmp 32]) rfl ?_); at_builtin; refine Kd.R_append_rows k36 (w0 := w) w.heap.size rfl (.tmp 31) (.tmp 32) 22 36 (.agg #[(.string ⟨#[]⟩), (.int .i64 0)]) 24 rfl Tryd.underlying22 info36 rfl (by decide) (by omega) v133 y132 l0 _ _ _ (fun _ => True) (fun _ => False) rfl rfl ?aO ?aR (fun _ _ h => h) (fun _ h => h.elim) ?aF ?aB ?aS ?aL ?_; (case aR => repeat (first | exact (Kd.C_below HR0.out HB.out) | (with_reducible refine Kd.C_alloc ?_ _) | (with_reducible refine Kd.C_drewN ?_ _) | (with_reducible refine Kd.C_drew ?_))); (case aB => exact (by repeat (first | (with_reducible first | exact HB.out | apply below_alloc | apply pw_below_drewN | apply below_drew1 | refine below_set ?_ GE126.out | refine below_set ?_ GE131.out) | exact HB.out))); (case aF => exact (fun _ _ => trivial)); (case aO => exact (by (with_reducible repeat (first | apply Kd.R_alloc | apply Kd.R_drewN | apply Kd.R_drew)); exact HO134.out)); (case aS => exact (below_size (by repeat (first | (with_reducible first | exact HB.out | apply below_alloc | apply pw_below_drewN | apply below_drew1 | refine below_set ?_ GE126.out | refine below_set ?_ GE131.out) | exact HB.out)))); (case aL => have := LMc23.out; omega); intro v136 w30 ho hb hg hat; rw [← Ny135.out] at ho; have n0_ := Aside0.mk (blk_grown (g := gb126) (o := .cells #[.int .i64 a1_0, .string a1_1, .string a1_2, .string a1_3, .string a1_4, .string a1_5, .string a1_6, .string a1_7, .string a1_8] 24 (0, 0)) (by (with_reducible repeat (first | refine blk_drewN ?_ _ | refine blk_drew ?_ | refine blk_alloc ?_ _)); exact BK126.out) hg (Kd.R_ne HO134.out BK126.out (by decide))); have n1_ := Aside0.mk (blk_grown (g := gb131) (o := .cells #[.int .i64 (wrap64 (Int.tmod a2 4)), .string a1_1, .string a1_2, .string a1_3, .string a1_4, .string a1_5, .string a1_6, .string a1_7, .string a1_8] 24 (0, 0)) (by (with_reducible repeat (first | refine blk_drewN ?_ _ | refine blk_drew ?_ | refine blk_alloc ?_ _)); exact BK131.out) hg (Kd.R_ne HO134.out BK131.out (by decide))); have n2_ := Aside0.mk (hb); have n3_ := Aside0.mk (ho); clear BK126; clear BK131; clear HB; clear HO134; have BK126 := n0_; have BK131 := n1_; have HB := n2_; have HO137 := n3_; clear n0_ n1_ n2_ n3_; clear ho hb hg hat; obtain ⟨Ao31, co31, eo31⟩ := Kd.R_slice HO137.out; subst eo31))
                go_loopg [36] kj13 (fun kq v36 w' => ∃ (x8_3 : List (S36)) (x36_3 : Int), v36 = .int .i64 x36_3 ∧ Aside0 (laws_FnListFormat.l0 kq l0 x8_3 (y135.length : Int) x36_3 a1_0 a1_1 a1_2 a1_3 a1_4 a1_5 a1_6 a1_7 a1_8 (wrap64 (Int.tmod a2 4)) a1_1 a1_2 a1_3 a1_4 a1_5 a1_6 a1_7 a1_8 = some r) ∧ Aside0 (kq ≤ kj13) ∧ Aside0 (Kd.R k36 36 w' w.heap.size (fun _ => True) (.slice Ao31 y135.length co31) x8_3) ∧ Aside0 (w'.heap[gb126]? = some (.cells #[.int .i64 a1_0, .string a1_1, .string a1_2, .string a1_3, .string a1_4, .string a1_5, .string a1_6, .string a1_7, .string a1_8] 24 (0, 0))) ∧ Aside0 (w'.heap[gb131]? = some (.cells #[.int .i64 (wrap64 (Int.tmod a2 4)), .string a1_1, .string a1_2, .string a1_3, .string a1_4, .string a1_5, .string a1_6, .string a1_7, .string a1_8] 24 (0, 0))) ∧ Aside0 (Below w.heap.size w w'))
                case atStart => exact ⟨(y135), (0), (by first | rfl | (simp; done) | (simp [*]; done)), H', ⟨Nat.le_refl _⟩, ⟨by (with_reducible repeat (first | apply Kd.R_alloc | apply Kd.R_drewN | apply Kd.R_drew)); exact HO137.out⟩, ⟨by (with_reducible repeat (first | refine blk_drewN ?_ _ | refine blk_drew ?_ | refine blk_alloc ?_ _)); exact BK126.out⟩, ⟨by (with_reducible repeat (first | refine blk_drewN ?_ _ | refine blk_drew ?_ | refine blk_alloc ?_ _)); exact BK131.out⟩, ⟨by repeat (first | (with_reducible first | exact HB.out | apply below_alloc | apply pw_below_drewN | apply below_drew1 | refine below_set ?_ GE126.out | refine below_set ?_ GE131.out) | exact HB.out)⟩⟩
                case round =>
                  clear H'
                  try clear c1
                  try clear c2
                  try clear p2
                  try clear c4
                  try clear c5
                  try clear p6
                  try clear c7
                  try clear c13
                  try clear c16
                  try clear c22
                  try clear c23
                  try clear c26
                  try clear hcz10_0
                  try clear hcz10_1
                  try clear hcz10_2
                  try clear hcz10_3
                  try clear hcz10_4
                  try clear hcz10_5
                  try clear hcz10_6
                  try clear hcz10_7
                  try clear hcz10_8
                  try clear hcz19_0
                  try clear hcz19_1
                  try clear hcz19_2
                  try clear hcz19_3
                  try clear hcz19_4
                  try clear hcz19_5
                  try clear hcz19_6
                  try clear hcz19_7
                  try clear hcz19_8
                  try clear hcz24_0
                  try clear hcz24_1
                  try clear hcz24_2
                  try clear hcz24_3
                  try clear hcz24_4
                  try clear hcz24_5
                  try clear hcz24_6
                  try clear hcz24_7
                  try clear hcz24_8
                  try clear hcz27_0
                  try clear hcz27_1
                  try clear hcz27_2
                  try clear hcz27_3
                  try clear hcz27_4
                  try clear hcz27_5
                  try clear hcz27_6
                  try clear hcz27_7
                  try clear hcz27_8
                  try clear hfz10_0
                  try clear hfz10_1
                  try clear hfz10_2
                  try clear hfz10_3
                  try clear hfz10_4
                  try clear hfz10_5
                  try clear hfz10_6
                  try clear hfz10_7
                  try clear hfz10_8
                  try clear hfz19_0
                  try clear hfz19_1
                  try clear hfz19_2
                  try clear hfz19_3
                  try clear hfz19_4
                  try clear hfz19_5
                  try clear hfz19_6
                  try clear hfz19_7
                  try clear hfz19_8
                  try clear hfz24_0
                  try clear hfz24_1
                  try clear hfz24_2
                  try clear hfz24_3
                  try clear hfz24_4
                  try clear hfz24_5
                  try clear hfz24_6
                  try clear hfz24_7
                  try clear hfz24_8
                  try clear hfz27_0
                  try clear hfz27_1
                  try clear hfz27_2
                  try clear hfz27_3
                  try clear hfz27_4
                  try clear hfz27_5
                  try clear hfz27_6
                  try clear hfz27_7
                  try clear hfz27_8
                  try clear p2
                  obtain ⟨x8_3, x36_3, rfl, HA, HK3, HO_8, BK126, BK131, HB⟩ := hrel
                  have hl8_3 := (Kd.R_reads' HO_8.out).1
                  rw [hl8_3] at HO_8
                  (try simp only [hl8_3])
                  (try simp only [hl8_3] at BK126)
                  (try simp only [hl8_3] at BK131)
                  cases gk with
                  | zero => exact absurd HA.out (by simp [laws_FnListFormat.l0])
                  | succ k3 =>
                    have H := HA.out
                    clear HA
                    simp only [laws_FnListFormat.l0] at H
                    by_cases c32 : x36_3 < (y135.length : Int)
                    · rw [if_pos c32] at H
                      have c32b0 : decide (x36_3 < (y135.length : Int)) = true := decide_eq_true c32
                      clear c32
                      by_cases c33 : 0 ≤ x36_3
                      · rw [if_pos c33] at H
                        have c33b0 : decide (0 ≤ x36_3) = true := decide_eq_true c33
                        clear c33
                        by_cases c34 : x36_3 < (x8_3.length : Int)
                        · rw [if_pos c34] at H
                          have c34b0 : decide (x36_3 < (x8_3.length : Int)) = true := decide_eq_true c34
                          clear c34
                          replace H := Option.bind_eq_some_iff.mp H
                          obtain ⟨t139, A350, H⟩ := H
                          replace H : (laws_FnListFormat.l0 k3 l0 (x8_3.set (x36_3 : Int).toNat (⟨t139, (rd_T36 x8_3 x36_3).f1⟩ : S36)) (y135.length : Int) (wrap64 (x36_3 + 1)) a1_0 a1_1 a1_2 a1_3 a1_4 a1_5 a1_6 a1_7 a1_8 (wrap64 (Int.tmod a2 4)) a1_1 a1_2 a1_3 a1_4 a1_5 a1_6 a1_7 a1_8) = some r := H
                          have A35 := Aside0.mk A350
                          clear A350
                          obtain ⟨y140, hy140⟩ : ∃ y_ : List (S36), y_ = (x8_3.set (x36_3 : Int).toNat (⟨t139, (rd_T36 x8_3 x36_3).f1⟩ : S36)) := ⟨_, rfl⟩
                          replace H : (laws_FnListFormat.l0 k3 l0 y140 (y135.length : Int) (wrap64 (x36_3 + 1)) a1_0 a1_1 a1_2 a1_3 a1_4 a1_5 a1_6 a1_7 a1_8 (wrap64 (Int.tmod a2 4)) a1_1 a1_2 a1_3 a1_4 a1_5 a1_6 a1_7 a1_8) = some r := by first | (rw [hy140]; with_reducible exact H) | (have H2_ := (Option.bind_some _ _).symm.trans H; rw [hy140]; with_reducible exact H2_) | (have H2_ := (Option.bind_some _ _).symm.trans H; with_reducible exact H2_) | with_reducible exact H | (rw [hy140]; exact H) | exact H
                          have Ny140 := Aside0.mk hy140
                          clear hy140
                          have H' := Aside0.mk H
                          clear H
                          try go_wp2
                          have n0_ := Aside0.mk (Kd.R_drew HO_8.out)
                          have n1_ := Aside0.mk (blk_drew BK126.out)
                          have n2_ := Aside0.mk (blk_drew BK131.out)
                          have n3_ := Aside0.mk (below_drew1 HB.out)
                          clear HO_8
                          clear BK126
                          clear BK131
                          clear HB
                          have HO_8 := n0_
                          have BK126 := n1_
                          have BK131 := n2_
                          have HB := n3_
                          clear n0_ n1_ n2_ n3_
                          have p138 : 0 ≤ (x36_3 : Int) := of_decide_eq_true (by first | (with_reducible assumption) | assumption)
                          have q138 : x36_3 < (x8_3.length : Int) := of_decide_eq_true (by first | (with_reducible assumption) | assumption)
                          obtain ⟨ad138, e138, hx138_0, hx138_1⟩ := at_T36 (Kd.R_reads' HO_8.out).2.2 x36_3 p138 q138
                          cases e138
                          replace p138 := eq_true p138
                          replace q138 := eq_true q138
                          refine start_ (n := 13) (S := fun w' => w'.cell? ⟨gb131, 0, none⟩ = some (.int .i64 (wrap64 (Int.tmod a2 4))) ∧ w'.cell? ⟨gb131, 1, none⟩ = some (.string a1_1) ∧ w'.cell? ⟨gb131, 2, none⟩ = some (.string a1_2) ∧ w'.cell? ⟨gb131, 3, none⟩ = some (.string a1_3) ∧ w'.cell? ⟨gb131, 4, none⟩ = some (.string a1_4) ∧ w'.cell? ⟨gb131, 5, none⟩ = some (.string a1_5) ∧ w'.cell? ⟨gb131, 6, none⟩ = some (.string a1_6) ∧ w'.cell? ⟨gb131, 7, none⟩ = some (.string a1_7) ∧ w'.cell? ⟨gb131, 8, none⟩ = some (.string a1_8) ∧ w'.cell? (ad138.add ((x36_3).toNat * 2)) = some (.string ((rd_T36 x8_3 x36_3).f0)) ∧ w'.cell? ⟨(ad138.add ((x36_3).toNat * 2)).block, (ad138.add ((x36_3).toNat * 2)).off + 1, none⟩ = some (.int .i64 ((rd_T36 x8_3 x36_3).f1))) (ds := [12]) #[false, false, false, false, false, false, false, false, false, false, false, false, false] (by kernel_rfl) rfl rfl ⟨(blk_cell BK131.out 0).trans rfl, (blk_cell BK131.out 1).trans rfl, (blk_cell BK131.out 2).trans rfl, (blk_cell BK131.out 3).trans rfl, (blk_cell BK131.out 4).trans rfl, (blk_cell BK131.out 5).trans rfl, (blk_cell BK131.out 6).trans rfl, (blk_cell BK131.out 7).trans rfl, (blk_cell BK131.out 8).trans rfl, hx138_0, hx138_1⟩ (fun hHeld => ?_); refine with_tabW laws_FnListFormat.tab11 laws_FnListFormat.bits11 (fun HT_ HW_ => ?_)
                          generalize wr.drew = w37 at HO_8 BK126 BK131 HB hx138_0 hx138_1 hHeld ⊢
                          refine pure_ (i := 0) (N := some 39) (v := ?_) (a' := ?_) #[true, false, false, false, false, false, false, false, false, false, false, false, false] rfl rfl (any_of HT_.out (by kernel_rfl)) (fun _ _ _ h => h) (Or.inl ⟨by rfl, ?_⟩) ?_ ?_
                          rotate_left
                          · intro w'
                            go_simp
                            with_reducible rfl
                          rotate_left
                          · simp only [Act.put, List.setIfInBounds_toArray, List.set_cons_zero, List.set_cons_succ, i64_w, i32_w]
                            rfl
                          refine pure_ (i := 1) (N := some 40) (v := ?_) (a' := ?_) #[true, true, false, false, false, false, false, false, false, false, false, false, false] rfl rfl (any_of HT_.out (by kernel_rfl)) (fun _ _ _ h => h) (Or.inl ⟨by rfl, ?_⟩) ?_ ?_
                          rotate_left
                          · intro w'
                            go_simp
                            with_reducible rfl
                          rotate_left
                          · simp only [Act.put, List.setIfInBounds_toArray, List.set_cons_zero, List.set_cons_succ, i64_w, i32_w]
                            rfl
                          refine pure_ (i := 2) (N := some 41) (v := ?_) (a' := ?_) #[true, true, true, false, false, false, false, false, false, false, false, false, false] rfl rfl (any_of HT_.out (by kernel_rfl)) (fun _ _ _ h => h) (Or.inl ⟨by rfl, ?_⟩) ?_ ?_
                          rotate_left
                          · intro w'
                            go_simp
                            with_reducible rfl
                          rotate_left
                          · simp only [Act.put, List.setIfInBounds_toArray, List.set_cons_zero, List.set_cons_succ, i64_w, i32_w]
                            rfl
                          refine pure_ (i := 4) (N := some 43) (v := ?_) (a' := ?_) #[true, true, true, false, true, false, false, false, false, false, false, false, false] rfl rfl (any_of HT_.out (by kernel_rfl)) (fun _ _ _ h => h) (Or.inl ⟨by rfl, ?_⟩) ?_ ?_
                          rotate_left
                          · intro w'
                            go_simp
                            with_reducible rfl
                          rotate_left
                          · simp only [Act.put, List.setIfInBounds_toArray, List.set_cons_zero, List.set_cons_succ, i64_w, i32_w]
                            rfl
                          refine pure_ (i := 5) (N := some 44) (v := ?_) (a' := ?_) #[true, true, true, false, true, true, false, false, false, false, false, false, false] rfl rfl (any_of HT_.out (by kernel_rfl)) (fun _ _ _ h => h) (Or.inl ⟨by rfl, ?_⟩) ?_ ?_
                          rotate_left
                          · intro w'
                            go_simp
                            with_reducible rfl
                          rotate_left
                          · simp only [Act.put, List.setIfInBounds_toArray, List.set_cons_zero, List.set_cons_succ, i64_w, i32_w]
                            rfl
                          refine pure_ (i := 6) (N := some 45) (v := ?_) (a' := ?_) #[true, true, true, false, true, true, true, false, false, false, false, false, false] rfl rfl (any_of HT_.out (by kernel_rfl)) (fun _ _ _ h => h) (Or.inl ⟨by rfl, ?_⟩) ?_ ?_
                          rotate_left
                          · intro w'
                            go_simp
                            with_reducible rfl
                          rotate_left
                          · simp only [Act.put, List.setIfInBounds_toArray, List.set_cons_zero, List.set_cons_succ, i64_w, i32_w]
                            rfl
                          refine pure_ (i := 7) (N := some 46) (v := ?_) (a' := ?_) #[true, true, true, false, true, true, true, true, false, false, false, false, false] rfl rfl (any_of HT_.out (by kernel_rfl)) (fun _ _ _ h => h) (Or.inl ⟨by rfl, ?_⟩) ?_ ?_
                          rotate_left
                          · intro w'
                            go_simp
                            with_reducible rfl
                          rotate_left
                          · simp only [Act.put, List.setIfInBounds_toArray, List.set_cons_zero, List.set_cons_succ, i64_w, i32_w]
                            rfl
                          refine take_ (i := 3) (N := some 42) (v := ?_) (a' := ?_) #[true, true, true, true, true, true, true, true, false, false, false, false, false] rfl rfl (take_ofW HT_.out HW_.out (by kernel_rfl)) (fun _ _ _ h => h) (Or.inl ⟨by rfl, ?_⟩) hHeld ?_ ?_
                          rotate_left
                          · rintro w' ⟨s0, s1, s2, s3, s4, s5, s6, s7, s8, s9, s10⟩
                            go_simp
                            with_reducible rfl
                          rotate_left
                          · simp only [Act.put, List.setIfInBounds_toArray, List.set_cons_zero, List.set_cons_succ, i64_w, i32_w]
                            rfl
                          refine take_ (i := 8) (N := some 47) (v := ?_) (a' := ?_) #[true, true, true, true, true, true, true, true, true, false, false, false, false] rfl rfl (take_ofW HT_.out HW_.out (by kernel_rfl)) (fun _ _ _ h => h) (Or.inl ⟨by rfl, ?_⟩) hHeld ?_ ?_
                          rotate_left
                          · rintro w' ⟨s0, s1, s2, s3, s4, s5, s6, s7, s8, s9, s10⟩
                            go_simp
                            with_reducible rfl
                          rotate_left
                          · simp only [Act.put, List.setIfInBounds_toArray, List.set_cons_zero, List.set_cons_succ, i64_w, i32_w]
                            rfl
                          refine one_ (i := 9) (N := some 48) #[true, true, true, true, true, true, true, true, true, true, false, false, false] rfl rfl (one_of HT_.out (by kernel_rfl)) (by decide) (fun K hK => ?_)
                          refine goes_ Tryd.func14 (by kernel_rfl) rfl #[.int .i64 (wrap64 (Int.tmod a2 4)), .string ((rd_T36 x8_3 x36_3).f0)] (by rfl) rfl rfl (by (try simp only [List.map_toArray, List.map_cons, List.map_nil]); first | done | rfl | (simp only [List.length_drop, List.length_take]; rfl)) ?_
                          with_reducible refine (impl_TextFormat.calls (wrap64 (Int.tmod a2 4)) ((rd_T36 x8_3 x36_3).f0) t139 _ (tab_step HTW.out (by repeat (first | (with_reducible first | exact HB.out | apply below_alloc | apply pw_below_drewN | apply below_drew1) | exact HB.out))) A35.out).mono ?_
                          rintro e w38 ⟨rfl, hb⟩
                          have HS9_ := (hb.cell (World.block_lt_of_cell? _ _ (hHeld.2.2.2.2.2.2.2.2.2.1))).trans (hHeld.2.2.2.2.2.2.2.2.2.1)
                          have HS10_ := (hb.cell (World.block_lt_of_cell? _ _ (hHeld.2.2.2.2.2.2.2.2.2.2))).trans (hHeld.2.2.2.2.2.2.2.2.2.2)
                          refine ⟨_, rfl, ?_⟩
                          have n0_ := Aside0.mk (Kd.R_below (by (with_reducible repeat (first | apply Kd.R_alloc | apply Kd.R_drewN | apply Kd.R_drew)); exact HO_8.out) hb)
                          have n1_ := Aside0.mk (blk_below (g := gb126) (o := .cells #[.int .i64 a1_0, .string a1_1, .string a1_2, .string a1_3, .string a1_4, .string a1_5, .string a1_6, .string a1_7, .string a1_8] 24 (0, 0)) (by (with_reducible repeat (first | refine blk_drewN ?_ _ | refine blk_drew ?_ | refine blk_alloc ?_ _)); exact BK126.out) hb)
                          have n2_ := Aside0.mk (blk_below (g := gb131) (o := .cells #[.int .i64 (wrap64 (Int.tmod a2 4)), .string a1_1, .string a1_2, .string a1_3, .string a1_4, .string a1_5, .string a1_6, .string a1_7, .string a1_8] 24 (0, 0)) (by (with_reducible repeat (first | refine blk_drewN ?_ _ | refine blk_drew ?_ | refine blk_alloc ?_ _)); exact BK131.out) hb)
                          have n3_ := Aside0.mk (below_step (by repeat (first | (with_reducible first | exact HB.out | apply below_alloc | apply pw_below_drewN | apply below_drew1 | refine below_set ?_ GE126.out | refine below_set ?_ GE131.out) | exact HB.out)) hb)
                          clear HO_8
                          clear BK126
                          clear BK131
                          clear HB
                          have HO_8 := n0_
                          have BK126 := n1_
                          have BK131 := n2_
                          have HB := n3_
                          clear n0_ n1_ n2_ n3_
                          (try clear hb)
                          (try clear hb2)
                          (try clear hk)
                          (try clear hi)
                          have p36 : 0 ≤ (x36_3 : Int) := of_decide_eq_true (by first | (with_reducible assumption) | assumption)
                          have q36 : (x36_3 : Int) < ((x8_3.length : Int) : Int) := of_decide_eq_true (by first | (with_reducible assumption) | assumption)
                          obtain ⟨go36, co36, eo36, gb36, gl36, cl36, HG36⟩ := Kd.R_form HO_8.out (by omega)
                          (first | cases eo36 | (injection eo36 with ea_ en_ ec_; (first | subst ea_ | (injection ea_ with ea_; subst ea_)); subst ec_; clear en_))
                          have GB36 := Aside0.mk gb36
                          have GG36 := Aside0.mk HG36
                          clear gb36 gl36 HG36
                          (first | simp only [add_plain] at hx138_0 | skip)
                          (first | simp only [add_plain] at hx138_1 | skip)
                          obtain ⟨ce36, hcl36, hM36, hcc36, hfr36⟩ := Kd.R_elem HO_8.out z36 (x36_3 : Int) p36 q36
                          obtain rfl := k36_openM hM36
                          have hx36_0 : World.cell? _ ⟨go36, (x36_3 : Int).toNat * 2, none⟩ = some (.string ((rd_T36 x8_3 x36_3).f0)) := hcc36 0 _ rfl
                          have hx36_1 : World.cell? _ ⟨go36, (x36_3 : Int).toNat * 2 + 1, none⟩ = some (.int .i64 ((rd_T36 x8_3 x36_3).f1)) := hcc36 1 _ rfl
                          have hf36_0 : World.frozen? _ ⟨go36, (x36_3 : Int).toNat * 2, none⟩ = false := hfr36 0
                          have hf36_1 : World.frozen? _ ⟨go36, (x36_3 : Int).toNat * 2 + 1, none⟩ = false := hfr36 1
                          clear hcl36 hcc36 hfr36 hM36
                          replace p36 := eq_true p36
                          replace q36 := eq_true q36
                          obtain ⟨ce39, hcl39, hM39, hcc39, hfr39⟩ := Kd.R_elem HO_8.out z36 (x36_3 : Int) (of_decide_eq_true (by first | (with_reducible assumption) | assumption)) (by have h_ : (x36_3 : Int) < ((x8_3.length : Int) : Int) := of_decide_eq_true (by first | (with_reducible assumption) | assumption); first | exact h_ | (have e_ := (Kd.R_reads' HO_8.out).1; omega) | simpa using h_)
                          obtain rfl := k36_openM hM39
                          have HP39 := (Kd.R_seg HO_8.out (x36_3 : Int) (of_decide_eq_true (by first | (with_reducible assumption) | assumption)) (by have h_ : (x36_3 : Int) < ((x8_3.length : Int) : Int) := of_decide_eq_true (by first | (with_reducible assumption) | assumption); first | exact h_ | (have e_ := (Kd.R_reads' HO_8.out).1; omega) | simpa using h_) (seg := [.string t139]) (j := 0) hcl39 hcc39 (show 1 ≤ 2 from by decide) (x' := (⟨t139, (rd_T36 x8_3 x36_3).f1⟩ : S36)) (k36_mkM _ _ _ (⟨t139, (rd_T36 x8_3 x36_3).f1⟩ : S36) ) (fun _ hk => hk)).1
                          rw [← Ny140.out] at HP39
                          have HQ39 := Aside0.mk HP39
                          clear hcl39 hcc39 hfr39 hM39 HP39
                          refine hK.out _ _ ⟨(blk_cell BK131.out 0).trans rfl, (blk_cell BK131.out 1).trans rfl, (blk_cell BK131.out 2).trans rfl, (blk_cell BK131.out 3).trans rfl, (blk_cell BK131.out 4).trans rfl, (blk_cell BK131.out 5).trans rfl, (blk_cell BK131.out 6).trans rfl, (blk_cell BK131.out 7).trans rfl, (blk_cell BK131.out 8).trans rfl, HS9_, HS10_⟩ (fun hHeld => ?_)
                          clear hK K
                          refine norm_ (a' := ?_) ?_ ?_
                          rotate_left
                          · show Act.put _ (some 48) _ = _
                            simp only [Act.put, List.setIfInBounds_toArray, List.set_cons_zero, List.set_cons_succ, i64_w, i32_w]
                            rfl
                          refine pure_ (i := 10) (N := some 49) (v := ?_) (a' := ?_) #[true, true, true, true, true, true, true, true, true, true, true, false, false] rfl rfl (any_of HT_.out (by kernel_rfl)) (fun _ _ _ h => h) (Or.inl ⟨by rfl, ?_⟩) ?_ ?_
                          rotate_left
                          · intro w'
                            go_simp
                            with_reducible rfl
                          rotate_left
                          · simp only [Act.put, List.setIfInBounds_toArray, List.set_cons_zero, List.set_cons_succ, i64_w, i32_w]
                            rfl
                          refine pure_ (i := 11) (N := some 50) (v := ?_) (a' := ?_) #[true, true, true, true, true, true, true, true, true, true, true, true, false] rfl rfl (any_of HT_.out (by kernel_rfl)) (fun _ _ _ h => h) (Or.inl ⟨by rfl, ?_⟩) ?_ ?_
                          rotate_left
                          · intro w'
                            go_simp
                            with_reducible rfl
                          rotate_left
                          · simp only [Act.put, List.setIfInBounds_toArray, List.set_cons_zero, List.set_cons_succ, i64_w, i32_w]
                            rfl
                          refine last_ (i := 12) (N := none) #[true, true, true, true, true, true, true, true, true, true, true, true, true] rfl rfl (one_of HT_.out (by kernel_rfl)) (by decide) (fun K hK => ?_)
                          refine skip_ (w1 := ?_) (by rfl) rfl ?_ ?_
                          rotate_left
                          · go_simp
                            rfl
                          refine hK.out _ _ ?_
                          clear hK K
                          refine done_ (done_of HT_.out (by kernel_rfl)) ?_
                          try go_wp2
                          (try simp only [← hl8_3])
                          go_roundg k3
                          case measure => have := HJ3.out; have := HJ13.out; have := HK3.out; omega
                          case rel => exact ⟨(y140), (wrap64 (x36_3 + 1)), (by first | rfl | (simp; done) | (simp [*]; done)), H', ⟨by have := HJ3.out; have := HJ13.out; have := HK3.out; omega⟩, ⟨by (try simp only [hl8_3]); (with_reducible repeat (first | apply Kd.R_alloc | apply Kd.R_drewN | apply Kd.R_drew)); exact HQ39.out⟩, ⟨by (try simp only [hl8_3]); (with_reducible repeat (first | refine blk_drewN ?_ _ | refine blk_drew ?_ | refine blk_alloc ?_ _)); refine blk_far ?_ (by have h_ := Kd.R_ne HO_8.out BK126.out (by decide); intro e_; exact h_ (by rw [e_]; rfl)) _; (with_reducible repeat (first | refine blk_drewN ?_ _ | refine blk_drew ?_ | refine blk_alloc ?_ _)); exact BK126.out⟩, ⟨by (try simp only [hl8_3]); (with_reducible repeat (first | refine blk_drewN ?_ _ | refine blk_drew ?_ | refine blk_alloc ?_ _)); refine blk_far ?_ (by have h_ := Kd.R_ne HO_8.out BK131.out (by decide); intro e_; exact h_ (by rw [e_]; rfl)) _; (with_reducible repeat (first | refine blk_drewN ?_ _ | refine blk_drew ?_ | refine blk_alloc ?_ _)); exact BK131.out⟩, ⟨by repeat (first | (with_reducible first | exact HB.out | apply below_alloc | apply pw_below_drewN | apply below_drew1 | refine below_set ?_ GB36.out | refine below_set ?_ GE126.out | refine below_set ?_ GE131.out) | exact HB.out)⟩⟩
                        · rw [if_neg c34] at H
                          exact absurd H (by simp)
                      · rw [if_neg c33] at H
                        exact absurd H (by simp)
                    · rw [if_neg c32] at H
                      have c32b0 : decide (x36_3 < (y135.length : Int)) = false := decide_eq_false c32
                      have c32b9 : decide (x36_3 < (x8_3.length : Int)) = false := by rw [← hl8_3]; exact c32b0
                      clear c32
                      replace H := Option.bind_eq_some_iff.mp H
                      obtain ⟨t141, A400, H⟩ := H
                      replace H : ((impl_ListRender.f t141 (wrap64 (Int.tmod a2 4)) a1_1 a1_2 a1_3 a1_4 a1_5 a1_6 a1_7 a1_8).bind fun t144 => ((spec_LsSteps.f k3 x8_3).bind fun t145 => ((impl_ListRender.f t145 a1_0 a1_1 a1_2 a1_3 a1_4 a1_5 a1_6 a1_7 a1_8).bind fun t148 => (if t144.toList = t148.toList then ((laws_lsAlive.f).bind fun t149 => (some t149)) else (some false))))) = some r := H
                      have A40 := Aside0.mk A400
                      clear A400
                      replace H := Option.bind_eq_some_iff.mp H
                      obtain ⟨t144, A410, H⟩ := H
                      replace H : ((spec_LsSteps.f k3 x8_3).bind fun t145 => ((impl_ListRender.f t145 a1_0 a1_1 a1_2 a1_3 a1_4 a1_5 a1_6 a1_7 a1_8).bind fun t148 => (if t144.toList = t148.toList then ((laws_lsAlive.f).bind fun t149 => (some t149)) else (some false)))) = some r := H
                      have A41 := Aside0.mk A410
                      clear A410
                      replace H := Option.bind_eq_some_iff.mp H
                      obtain ⟨t145, A420, H⟩ := H
                      replace H : ((impl_ListRender.f t145 a1_0 a1_1 a1_2 a1_3 a1_4 a1_5 a1_6 a1_7 a1_8).bind fun t148 => (if t144.toList = t148.toList then ((laws_lsAlive.f).bind fun t149 => (some t149)) else (some false))) = some r := H
                      have A42 := Aside0.mk A420
                      clear A420
                      replace H := Option.bind_eq_some_iff.mp H
                      obtain ⟨t148, A430, H⟩ := H
                      replace H : (if t144.toList = t148.toList then ((laws_lsAlive.f).bind fun t149 => (some t149)) else (some false)) = some r := H
                      have A43 := Aside0.mk A430
                      clear A430
                      by_cases c44 : t144.toList = t148.toList
                      · rw [if_pos c44] at H
                        have c44b0 : (t144.toList == t148.toList) = true := beq_iff_eq.mpr c44
                        have c44b1 : (t144.toList != t148.toList) = false := bne_eq_false_iff_eq.mpr c44
                        clear c44
                        replace H := Option.bind_eq_some_iff.mp H
                        obtain ⟨t149, A450, H⟩ := H
                        replace H : (some t149) = some r := H
                        have A45 := Aside0.mk A450
                        clear A450
                        obtain rfl := Option.some.inj H
                        try go_wp2
                        have n0_ := Aside0.mk (Kd.R_drew HO_8.out)
                        have n1_ := Aside0.mk (blk_drew BK126.out)
                        have n2_ := Aside0.mk (blk_drew BK131.out)
                        have n3_ := Aside0.mk (below_drew1 HB.out)
                        clear HO_8
                        clear BK126
                        clear BK131
                        clear HB
                        have HO_8 := n0_
                        have BK126 := n1_
                        have BK131 := n2_
                        have HB := n3_
                        clear n0_ n1_ n2_ n3_
                        refine start_ (n := 13) (S := fun w' => w'.cell? ⟨gb131, 0, none⟩ = some (.int .i64 (wrap64 (Int.tmod a2 4))) ∧ w'.cell? ⟨gb131, 1, none⟩ = some (.string a1_1) ∧ w'.cell? ⟨gb131, 2, none⟩ = some (.string a1_2) ∧ w'.cell? ⟨gb131, 3, none⟩ = some (.string a1_3) ∧ w'.cell? ⟨gb131, 4, none⟩ = some (.string a1_4) ∧ w'.cell? ⟨gb131, 5, none⟩ = some (.string a1_5) ∧ w'.cell? ⟨gb131, 6, none⟩ = some (.string a1_6) ∧ w'.cell? ⟨gb131, 7, none⟩ = some (.string a1_7) ∧ w'.cell? ⟨gb131, 8, none⟩ = some (.string a1_8) ∧ w'.cell? ⟨gb126, 0, none⟩ = some (.int .i64 a1_0) ∧ w'.cell? ⟨gb126, 1, none⟩ = some (.string a1_1) ∧ w'.cell? ⟨gb126, 2, none⟩ = some (.string a1_2) ∧ w'.cell? ⟨gb126, 3, none⟩ = some (.string a1_3) ∧ w'.cell? ⟨gb126, 4, none⟩ = some (.string a1_4) ∧ w'.cell? ⟨gb126, 5, none⟩ = some (.string a1_5) ∧ w'.cell? ⟨gb126, 6, none⟩ = some (.string a1_6) ∧ w'.cell? ⟨gb126, 7, none⟩ = some (.string a1_7) ∧ w'.cell? ⟨gb126, 8, none⟩ = some (.string a1_8)) (ds := []) #[false, false, false, false, false, false, false, false, false, false, false, false, false] (by kernel_rfl) rfl rfl ⟨(blk_cell BK131.out 0).trans rfl, (blk_cell BK131.out 1).trans rfl, (blk_cell BK131.out 2).trans rfl, (blk_cell BK131.out 3).trans rfl, (blk_cell BK131.out 4).trans rfl, (blk_cell BK131.out 5).trans rfl, (blk_cell BK131.out 6).trans rfl, (blk_cell BK131.out 7).trans rfl, (blk_cell BK131.out 8).trans rfl, (blk_cell BK126.out 0).trans rfl, (blk_cell BK126.out 1).trans rfl, (blk_cell BK126.out 2).trans rfl, (blk_cell BK126.out 3).trans rfl, (blk_cell BK126.out 4).trans rfl, (blk_cell BK126.out 5).trans rfl, (blk_cell BK126.out 6).trans rfl, (blk_cell BK126.out 7).trans rfl, (blk_cell BK126.out 8).trans rfl⟩ (fun hHeld => ?_); refine with_tabW laws_FnListFormat.tab13 laws_FnListFormat.bits13 (fun HT_ HW_ => ?_)
                        generalize wr.drew = w46 at HO_8 BK126 BK131 HB hHeld ⊢
                        refine pure_ (i := 0) (N := some 52) (v := ?_) (a' := ?_) #[true, false, false, false, false, false, false, false, false, false, false, false, false] rfl rfl (any_of HT_.out (by kernel_rfl)) (fun _ _ _ h => h) (Or.inl ⟨by rfl, ?_⟩) ?_ ?_
                        rotate_left
                        · intro w'
                          go_simp
                          with_reducible rfl
                        rotate_left
                        · simp only [Act.put, List.setIfInBounds_toArray, List.set_cons_zero, List.set_cons_succ, i64_w, i32_w]
                          rfl
                        refine pure_ (i := 4) (N := some 56) (v := ?_) (a' := ?_) #[true, false, false, false, true, false, false, false, false, false, false, false, false] rfl rfl (any_of HT_.out (by kernel_rfl)) (fun _ _ _ h => h) (Or.inl ⟨by rfl, ?_⟩) ?_ ?_
                        rotate_left
                        · intro w'
                          go_simp
                          with_reducible rfl
                        rotate_left
                        · simp only [Act.put, List.setIfInBounds_toArray, List.set_cons_zero, List.set_cons_succ, i64_w, i32_w]
                          rfl
                        refine take_ (i := 2) (N := some 54) (v := ?_) (a' := ?_) #[true, false, true, false, true, false, false, false, false, false, false, false, false] rfl rfl (take_ofW HT_.out HW_.out (by kernel_rfl)) (fun _ _ _ h => h) (Or.inl ⟨by rfl, ?_⟩) hHeld ?_ ?_
                        rotate_left
                        · rintro w' ⟨s0, s1, s2, s3, s4, s5, s6, s7, s8, s9, s10, s11, s12, s13, s14, s15, s16, s17⟩
                          go_simp
                          with_reducible rfl
                        rotate_left
                        · simp only [Act.put, List.setIfInBounds_toArray, List.set_cons_zero, List.set_cons_succ, i64_w, i32_w]
                          rfl
                        refine take_ (i := 6) (N := some 58) (v := ?_) (a' := ?_) #[true, false, true, false, true, false, true, false, false, false, false, false, false] rfl rfl (take_ofW HT_.out HW_.out (by kernel_rfl)) (fun _ _ _ h => h) (Or.inl ⟨by rfl, ?_⟩) hHeld ?_ ?_
                        rotate_left
                        · rintro w' ⟨s0, s1, s2, s3, s4, s5, s6, s7, s8, s9, s10, s11, s12, s13, s14, s15, s16, s17⟩
                          go_simp
                          with_reducible rfl
                        rotate_left
                        · simp only [Act.put, List.setIfInBounds_toArray, List.set_cons_zero, List.set_cons_succ, i64_w, i32_w]
                          rfl
                        refine one_ (i := 1) (N := some 53) #[true, true, true, false, true, false, true, false, false, false, false, false, false] rfl rfl (one_of HT_.out (by kernel_rfl)) (by decide) (fun K hK => ?_)
                        refine goes_ Tryd.func12 (by kernel_rfl) rfl #[.slice A0 l0.length c0] (by rfl) rfl rfl (by (try simp only [List.map_toArray, List.map_cons, List.map_nil]); first | done | rfl | (simp only [List.length_drop, List.length_take]; rfl)) ?_
                        with_reducible refine (spec_LsSteps.calls k3 _ _ l0 t141 _ ?side1 ?side2 A40.out).mono ?_
                        (case side1 => repeat (first | exact (Kd.C_below HR0.out HB.out) | (with_reducible refine Kd.C_alloc ?_ _) | (with_reducible refine Kd.C_drewN ?_ _) | (with_reducible refine Kd.C_drew ?_)))
                        (case side2 => exact HC0.out)
                        rintro e w47 ⟨v142, rfl, ho0, hb⟩
                        refine ⟨_, rfl, ?_⟩
                        have n0_ := Aside0.mk (Kd.R_below (by (with_reducible repeat (first | apply Kd.R_alloc | apply Kd.R_drewN | apply Kd.R_drew)); exact HO_8.out) hb)
                        have n1_ := Aside0.mk (Kd.S_lower ho0 (below_size (by repeat (first | (with_reducible first | exact HB.out | apply below_alloc | apply pw_below_drewN | apply below_drew1 | refine below_set ?_ GE126.out | refine below_set ?_ GE131.out) | exact HB.out))))
                        have n2_ := Aside0.mk (blk_below (g := gb126) (o := .cells #[.int .i64 a1_0, .string a1_1, .string a1_2, .string a1_3, .string a1_4, .string a1_5, .string a1_6, .string a1_7, .string a1_8] 24 (0, 0)) (by (with_reducible repeat (first | refine blk_drewN ?_ _ | refine blk_drew ?_ | refine blk_alloc ?_ _)); exact BK126.out) hb)
                        have n3_ := Aside0.mk (blk_below (g := gb131) (o := .cells #[.int .i64 (wrap64 (Int.tmod a2 4)), .string a1_1, .string a1_2, .string a1_3, .string a1_4, .string a1_5, .string a1_6, .string a1_7, .string a1_8] 24 (0, 0)) (by (with_reducible repeat (first | refine blk_drewN ?_ _ | refine blk_drew ?_ | refine blk_alloc ?_ _)); exact BK131.out) hb)
                        have n4_ := Aside0.mk (below_step (by repeat (first | (with_reducible first | exact HB.out | apply below_alloc | apply pw_below_drewN | apply below_drew1 | refine below_set ?_ GE126.out | refine below_set ?_ GE131.out) | exact HB.out)) hb)
                        clear HO_8
                        clear BK126
                        clear BK131
                        clear HB
                        have HO_8 := n0_
                        have HO143 := n1_
                        have BK126 := n2_
                        have BK131 := n3_
                        have HB := n4_
                        clear n0_ n1_ n2_ n3_ n4_
                        (try clear hb)
                        (try clear hb2)
                        (try clear hk)
                        (try clear hi)
                        (try clear ho0)
                        obtain ⟨Ao48, co48, eo48⟩ := Kd.S_slice HO143.out
                        (first | subst eo48 | (injection eo48 with f1_ f2_ f3_; have f4_ := f1_.symm; have f5_ := f3_.symm; clear f1_ f2_ f3_; subst f4_; subst f5_))
                        refine hK.out _ _ ⟨(blk_cell BK131.out 0).trans rfl, (blk_cell BK131.out 1).trans rfl, (blk_cell BK131.out 2).trans rfl, (blk_cell BK131.out 3).trans rfl, (blk_cell BK131.out 4).trans rfl, (blk_cell BK131.out 5).trans rfl, (blk_cell BK131.out 6).trans rfl, (blk_cell BK131.out 7).trans rfl, (blk_cell BK131.out 8).trans rfl, (blk_cell BK126.out 0).trans rfl, (blk_cell BK126.out 1).trans rfl, (blk_cell BK126.out 2).trans rfl, (blk_cell BK126.out 3).trans rfl, (blk_cell BK126.out 4).trans rfl, (blk_cell BK126.out 5).trans rfl, (blk_cell BK126.out 6).trans rfl, (blk_cell BK126.out 7).trans rfl, (blk_cell BK126.out 8).trans rfl⟩ (fun hHeld => ?_)
                        clear hK K
                        refine norm_ (a' := ?_) ?_ ?_
                        rotate_left
                        · show Act.put _ (some 53) _ = _
                          simp only [Act.put, List.setIfInBounds_toArray, List.set_cons_zero, List.set_cons_succ, i64_w, i32_w]
                          rfl
                        refine one_ (i := 3) (N := some 55) #[true, true, true, true, true, false, true, false, false, false, false, false, false] rfl rfl (one_of HT_.out (by kernel_rfl)) (by decide) (fun K hK => ?_)
                        refine goes_ Tryd.func11 (by kernel_rfl) rfl #[.slice Ao48 t141.length co48, .agg #[.int .i64 (wrap64 (Int.tmod a2 4)), .string a1_1, .string a1_2, .string a1_3, .string a1_4, .string a1_5, .string a1_6, .string a1_7, .string a1_8]] (by rfl) rfl rfl (by (try simp only [List.map_toArray, List.map_cons, List.map_nil]); first | done | rfl | (simp only [List.length_drop, List.length_take]; rfl)) ?_
                        with_reducible refine (impl_ListRender.calls _ _ t141 (wrap64 (Int.tmod a2 4)) a1_1 a1_2 a1_3 a1_4 a1_5 a1_6 a1_7 a1_8 t144 _ (tab_step HTW.out (by repeat (first | (with_reducible first | exact HB.out | apply below_alloc | apply pw_below_drewN | apply below_drew1) | exact HB.out))) ?side1 ?side2 A41.out).mono ?_
                        (case side1 => repeat (first | exact (Kd.S_reads' HO143.out).2.2 | (with_reducible refine Kd.C_alloc ?_ _) | (with_reducible refine Kd.C_drewN ?_ _) | (with_reducible refine Kd.C_drew ?_)))
                        (case side2 => exact (Kd.S_reads' HO143.out).2.1)
                        rintro e w49 ⟨rfl, hb⟩
                        refine ⟨_, rfl, ?_⟩
                        have n0_ := Aside0.mk (Kd.R_below (by (with_reducible repeat (first | apply Kd.R_alloc | apply Kd.R_drewN | apply Kd.R_drew)); exact HO_8.out) hb)
                        have n1_ := Aside0.mk (Kd.S_below (by (with_reducible repeat (first | apply Kd.S_alloc | apply Kd.S_drewN | apply Kd.S_drew)); exact HO143.out) hb)
                        have n2_ := Aside0.mk (blk_below (g := gb126) (o := .cells #[.int .i64 a1_0, .string a1_1, .string a1_2, .string a1_3, .string a1_4, .string a1_5, .string a1_6, .string a1_7, .string a1_8] 24 (0, 0)) (by (with_reducible repeat (first | refine blk_drewN ?_ _ | refine blk_drew ?_ | refine blk_alloc ?_ _)); exact BK126.out) hb)
                        have n3_ := Aside0.mk (blk_below (g := gb131) (o := .cells #[.int .i64 (wrap64 (Int.tmod a2 4)), .string a1_1, .string a1_2, .string a1_3, .string a1_4, .string a1_5, .string a1_6, .string a1_7, .string a1_8] 24 (0, 0)) (by (with_reducible repeat (first | refine blk_drewN ?_ _ | refine blk_drew ?_ | refine blk_alloc ?_ _)); exact BK131.out) hb)
                        have n4_ := Aside0.mk (below_step (by repeat (first | (with_reducible first | exact HB.out | apply below_alloc | apply pw_below_drewN | apply below_drew1 | refine below_set ?_ GE126.out | refine below_set ?_ GE131.out) | exact HB.out)) hb)
                        clear HO_8
                        clear HO143
                        clear BK126
                        clear BK131
                        clear HB
                        have HO_8 := n0_
                        have HO143 := n1_
                        have BK126 := n2_
                        have BK131 := n3_
                        have HB := n4_
                        clear n0_ n1_ n2_ n3_ n4_
                        (try clear hb)
                        (try clear hb2)
                        (try clear hk)
                        (try clear hi)
                        refine hK.out _ _ ⟨(blk_cell BK131.out 0).trans rfl, (blk_cell BK131.out 1).trans rfl, (blk_cell BK131.out 2).trans rfl, (blk_cell BK131.out 3).trans rfl, (blk_cell BK131.out 4).trans rfl, (blk_cell BK131.out 5).trans rfl, (blk_cell BK131.out 6).trans rfl, (blk_cell BK131.out 7).trans rfl, (blk_cell BK131.out 8).trans rfl, (blk_cell BK126.out 0).trans rfl, (blk_cell BK126.out 1).trans rfl, (blk_cell BK126.out 2).trans rfl, (blk_cell BK126.out 3).trans rfl, (blk_cell BK126.out 4).trans rfl, (blk_cell BK126.out 5).trans rfl, (blk_cell BK126.out 6).trans rfl, (blk_cell BK126.out 7).trans rfl, (blk_cell BK126.out 8).trans rfl⟩ (fun hHeld => ?_)
                        clear hK K
                        refine norm_ (a' := ?_) ?_ ?_
                        rotate_left
                        · show Act.put _ (some 55) _ = _
                          simp only [Act.put, List.setIfInBounds_toArray, List.set_cons_zero, List.set_cons_succ, i64_w, i32_w]
                          rfl
                        refine one_ (i := 5) (N := some 57) #[true, true, true, true, true, true, true, false, false, false, false, false, false] rfl rfl (one_of HT_.out (by kernel_rfl)) (by decide) (fun K hK => ?_)
                        refine goes_ Tryd.func12 (by kernel_rfl) rfl #[.slice Ao31 x8_3.length co31] (by rfl) rfl rfl (by (try simp only [List.map_toArray, List.map_cons, List.map_nil]); first | done | rfl | (simp only [List.length_drop, List.length_take]; rfl)) ?_
                        with_reducible refine (spec_LsSteps.calls k3 _ _ x8_3 t145 _ ?side1 ?side2 A42.out).mono ?_
                        (case side1 => repeat (first | exact (Kd.R_reads' HO_8.out).2.2 | (with_reducible refine Kd.C_alloc ?_ _) | (with_reducible refine Kd.C_drewN ?_ _) | (with_reducible refine Kd.C_drew ?_)))
                        (case side2 => exact (Kd.R_reads' HO_8.out).2.1)
                        rintro e w50 ⟨v146, rfl, ho0, hb⟩
                        refine ⟨_, rfl, ?_⟩
                        have n0_ := Aside0.mk (Kd.R_below (by (with_reducible repeat (first | apply Kd.R_alloc | apply Kd.R_drewN | apply Kd.R_drew)); exact HO_8.out) hb)
                        have n1_ := Aside0.mk (Kd.S_elder' (by (with_reducible repeat (first | apply Kd.S_alloc | apply Kd.S_drewN | apply Kd.S_drew)); exact HO143.out) (Kd.S_base ho0) hb)
                        have n2_ := Aside0.mk (Kd.S_lower (Kd.S_new' ho0 (Kd.S_lt (by (with_reducible repeat (first | apply Kd.S_alloc | apply Kd.S_drewN | apply Kd.S_drew)); exact HO143.out))) (below_size (by repeat (first | (with_reducible first | exact HB.out | apply below_alloc | apply pw_below_drewN | apply below_drew1 | refine below_set ?_ GE126.out | refine below_set ?_ GE131.out) | exact HB.out))))
                        have n3_ := Aside0.mk (blk_below (g := gb126) (o := .cells #[.int .i64 a1_0, .string a1_1, .string a1_2, .string a1_3, .string a1_4, .string a1_5, .string a1_6, .string a1_7, .string a1_8] 24 (0, 0)) (by (with_reducible repeat (first | refine blk_drewN ?_ _ | refine blk_drew ?_ | refine blk_alloc ?_ _)); exact BK126.out) hb)
                        have n4_ := Aside0.mk (blk_below (g := gb131) (o := .cells #[.int .i64 (wrap64 (Int.tmod a2 4)), .string a1_1, .string a1_2, .string a1_3, .string a1_4, .string a1_5, .string a1_6, .string a1_7, .string a1_8] 24 (0, 0)) (by (with_reducible repeat (first | refine blk_drewN ?_ _ | refine blk_drew ?_ | refine blk_alloc ?_ _)); exact BK131.out) hb)
                        have n5_ := Aside0.mk (below_step (by repeat (first | (with_reducible first | exact HB.out | apply below_alloc | apply pw_below_drewN | apply below_drew1 | refine below_set ?_ GE126.out | refine below_set ?_ GE131.out) | exact HB.out)) hb)
                        clear HO_8
                        clear HO143
                        clear BK126
                        clear BK131
                        clear HB
                        have HO_8 := n0_
                        have HO143 := n1_
                        have HO147 := n2_
                        have BK126 := n3_
                        have BK131 := n4_
                        have HB := n5_
                        clear n0_ n1_ n2_ n3_ n4_ n5_
                        (try clear hb)
                        (try clear hb2)
                        (try clear hk)
                        (try clear hi)
                        (try clear ho0)
                        obtain ⟨Ao51, co51, eo51⟩ := Kd.S_slice HO147.out
                        (first | subst eo51 | (injection eo51 with f1_ f2_ f3_; have f4_ := f1_.symm; have f5_ := f3_.symm; clear f1_ f2_ f3_; subst f4_; subst f5_))
                        refine hK.out _ _ ⟨(blk_cell BK131.out 0).trans rfl, (blk_cell BK131.out 1).trans rfl, (blk_cell BK131.out 2).trans rfl, (blk_cell BK131.out 3).trans rfl, (blk_cell BK131.out 4).trans rfl, (blk_cell BK131.out 5).trans rfl, (blk_cell BK131.out 6).trans rfl, (blk_cell BK131.out 7).trans rfl, (blk_cell BK131.out 8).trans rfl, (blk_cell BK126.out 0).trans rfl, (blk_cell BK126.out 1).trans rfl, (blk_cell BK126.out 2).trans rfl, (blk_cell BK126.out 3).trans rfl, (blk_cell BK126.out 4).trans rfl, (blk_cell BK126.out 5).trans rfl, (blk_cell BK126.out 6).trans rfl, (blk_cell BK126.out 7).trans rfl, (blk_cell BK126.out 8).trans rfl⟩ (fun hHeld => ?_)
                        clear hK K
                        refine norm_ (a' := ?_) ?_ ?_
                        rotate_left
                        · show Act.put _ (some 57) _ = _
                          simp only [Act.put, List.setIfInBounds_toArray, List.set_cons_zero, List.set_cons_succ, i64_w, i32_w]
                          rfl
                        refine one_ (i := 7) (N := some 59) #[true, true, true, true, true, true, true, true, false, false, false, false, false] rfl rfl (one_of HT_.out (by kernel_rfl)) (by decide) (fun K hK => ?_)
                        refine goes_ Tryd.func11 (by kernel_rfl) rfl #[.slice Ao51 t145.length co51, .agg #[.int .i64 a1_0, .string a1_1, .string a1_2, .string a1_3, .string a1_4, .string a1_5, .string a1_6, .string a1_7, .string a1_8]] (by rfl) rfl rfl (by (try simp only [List.map_toArray, List.map_cons, List.map_nil]); first | done | rfl | (simp only [List.length_drop, List.length_take]; rfl)) ?_
                        with_reducible refine (impl_ListRender.calls _ _ t145 a1_0 a1_1 a1_2 a1_3 a1_4 a1_5 a1_6 a1_7 a1_8 t148 _ (tab_step HTW.out (by repeat (first | (with_reducible first | exact HB.out | apply below_alloc | apply pw_below_drewN | apply below_drew1) | exact HB.out))) ?side1 ?side2 A43.out).mono ?_
                        (case side1 => repeat (first | exact (Kd.S_reads' HO147.out).2.2 | (with_reducible refine Kd.C_alloc ?_ _) | (with_reducible refine Kd.C_drewN ?_ _) | (with_reducible refine Kd.C_drew ?_)))
                        (case side2 => exact (Kd.S_reads' HO147.out).2.1)
                        rintro e w52 ⟨rfl, hb⟩
                        refine ⟨_, rfl, ?_⟩
                        have n0_ := Aside0.mk (Kd.R_below (by (with_reducible repeat (first | apply Kd.R_alloc | apply Kd.R_drewN | apply Kd.R_drew)); exact HO_8.out) hb)
                        have n1_ := Aside0.mk (Kd.S_below (by (with_reducible repeat (first | apply Kd.S_alloc | apply Kd.S_drewN | apply Kd.S_drew)); exact HO143.out) hb)
                        have n2_ := Aside0.mk (Kd.S_below (by (with_reducible repeat (first | apply Kd.S_alloc | apply Kd.S_drewN | apply Kd.S_drew)); exact HO147.out) hb)
                        have n3_ := Aside0.mk (blk_below (g := gb126) (o := .cells #[.int .i64 a1_0, .string a1_1, .string a1_2, .string a1_3, .string a1_4, .string a1_5, .string a1_6, .string a1_7, .string a1_8] 24 (0, 0)) (by (with_reducible repeat (first | refine blk_drewN ?_ _ | refine blk_drew ?_ | refine blk_alloc ?_ _)); exact BK126.out) hb)
                        have n4_ := Aside0.mk (blk_below (g := gb131) (o := .cells #[.int .i64 (wrap64 (Int.tmod a2 4)), .string a1_1, .string a1_2, .string a1_3, .string a1_4, .string a1_5, .string a1_6, .string a1_7, .string a1_8] 24 (0, 0)) (by (with_reducible repeat (first | refine blk_drewN ?_ _ | refine blk_drew ?_ | refine blk_alloc ?_ _)); exact BK131.out) hb)
                        have n5_ := Aside0.mk (below_step (by repeat (first | (with_reducible first | exact HB.out | apply below_alloc | apply pw_below_drewN | apply below_drew1 | refine below_set ?_ GE126.out | refine below_set ?_ GE131.out) | exact HB.out)) hb)
                        clear HO_8
                        clear HO143
                        clear HO147
                        clear BK126
                        clear BK131
                        clear HB
                        have HO_8 := n0_
                        have HO143 := n1_
                        have HO147 := n2_
                        have BK126 := n3_
                        have BK131 := n4_
                        have HB := n5_
                        clear n0_ n1_ n2_ n3_ n4_ n5_
                        (try clear hb)
                        (try clear hb2)
                        (try clear hk)
                        (try clear hi)
                        refine hK.out _ _ ⟨(blk_cell BK131.out 0).trans rfl, (blk_cell BK131.out 1).trans rfl, (blk_cell BK131.out 2).trans rfl, (blk_cell BK131.out 3).trans rfl, (blk_cell BK131.out 4).trans rfl, (blk_cell BK131.out 5).trans rfl, (blk_cell BK131.out 6).trans rfl, (blk_cell BK131.out 7).trans rfl, (blk_cell BK131.out 8).trans rfl, (blk_cell BK126.out 0).trans rfl, (blk_cell BK126.out 1).trans rfl, (blk_cell BK126.out 2).trans rfl, (blk_cell BK126.out 3).trans rfl, (blk_cell BK126.out 4).trans rfl, (blk_cell BK126.out 5).trans rfl, (blk_cell BK126.out 6).trans rfl, (blk_cell BK126.out 7).trans rfl, (blk_cell BK126.out 8).trans rfl⟩ (fun hHeld => ?_)
                        clear hK K
                        refine norm_ (a' := ?_) ?_ ?_
                        rotate_left
                        · show Act.put _ (some 59) _ = _
                          simp only [Act.put, List.setIfInBounds_toArray, List.set_cons_zero, List.set_cons_succ, i64_w, i32_w]
                          rfl
                        refine pure_ (i := 8) (N := some 60) (v := ?_) (a' := ?_) #[true, true, true, true, true, true, true, true, true, false, false, false, false] rfl rfl (any_of HT_.out (by kernel_rfl)) (fun _ _ _ h => h) (Or.inl ⟨by rfl, ?_⟩) ?_ ?_
                        rotate_left
                        · intro w'
                          go_simp
                          with_reducible rfl
                        rotate_left
                        · simp only [Act.put, List.setIfInBounds_toArray, List.set_cons_zero, List.set_cons_succ, i64_w, i32_w]
                          rfl
                        refine pure_ (i := 9) (N := some 61) (v := ?_) (a' := ?_) #[true, true, true, true, true, true, true, true, true, true, false, false, false] rfl rfl (any_of HT_.out (by kernel_rfl)) (fun _ _ _ h => h) (Or.inl ⟨by rfl, ?_⟩) ?_ ?_
                        rotate_left
                        · intro w'
                          go_simp
                          with_reducible rfl
                        rotate_left
                        · simp only [Act.put, List.setIfInBounds_toArray, List.set_cons_zero, List.set_cons_succ, i64_w, i32_w]
                          rfl
                        refine one_ (i := 10) (N := some 62) #[true, true, true, true, true, true, true, true, true, true, true, false, false] rfl rfl (one_of HT_.out (by kernel_rfl)) (by decide) (fun K hK => ?_)
                        refine goes_ Tryd.func15 (by kernel_rfl) rfl #[] (by rfl) rfl rfl (by (try simp only [List.map_toArray, List.map_cons, List.map_nil]); first | done | rfl | (simp only [List.length_drop, List.length_take]; rfl)) ?_
                        with_reducible refine (laws_lsAlive.calls  t149 _ (tab_step HTW.out (by repeat (first | (with_reducible first | exact HB.out | apply below_alloc | apply pw_below_drewN | apply below_drew1) | exact HB.out))) A45.out).mono ?_
                        rintro e w53 ⟨rfl, hb⟩
                        refine ⟨_, rfl, ?_⟩
                        have n0_ := Aside0.mk (Kd.R_below (by (with_reducible repeat (first | apply Kd.R_alloc | apply Kd.R_drewN | apply Kd.R_drew)); exact HO_8.out) hb)
                        have n1_ := Aside0.mk (Kd.S_below (by (with_reducible repeat (first | apply Kd.S_alloc | apply Kd.S_drewN | apply Kd.S_drew)); exact HO143.out) hb)
                        have n2_ := Aside0.mk (Kd.S_below (by (with_reducible repeat (first | apply Kd.S_alloc | apply Kd.S_drewN | apply Kd.S_drew)); exact HO147.out) hb)
                        have n3_ := Aside0.mk (blk_below (g := gb126) (o := .cells #[.int .i64 a1_0, .string a1_1, .string a1_2, .string a1_3, .string a1_4, .string a1_5, .string a1_6, .string a1_7, .string a1_8] 24 (0, 0)) (by (with_reducible repeat (first | refine blk_drewN ?_ _ | refine blk_drew ?_ | refine blk_alloc ?_ _)); exact BK126.out) hb)
                        have n4_ := Aside0.mk (blk_below (g := gb131) (o := .cells #[.int .i64 (wrap64 (Int.tmod a2 4)), .string a1_1, .string a1_2, .string a1_3, .string a1_4, .string a1_5, .string a1_6, .string a1_7, .string a1_8] 24 (0, 0)) (by (with_reducible repeat (first | refine blk_drewN ?_ _ | refine blk_drew ?_ | refine blk_alloc ?_ _)); exact BK131.out) hb)
                        have n5_ := Aside0.mk (below_step (by repeat (first | (with_reducible first | exact HB.out | apply below_alloc | apply pw_below_drewN | apply below_drew1 | refine below_set ?_ GE126.out | refine below_set ?_ GE131.out) | exact HB.out)) hb)
                        clear HO_8
                        clear HO143
                        clear HO147
                        clear BK126
                        clear BK131
                        clear HB
                        have HO_8 := n0_
                        have HO143 := n1_
                        have HO147 := n2_
                        have BK126 := n3_
                        have BK131 := n4_
                        have HB := n5_
                        clear n0_ n1_ n2_ n3_ n4_ n5_
                        (try clear hb)
                        (try clear hb2)
                        (try clear hk)
                        (try clear hi)
                        refine hK.out _ _ ⟨(blk_cell BK131.out 0).trans rfl, (blk_cell BK131.out 1).trans rfl, (blk_cell BK131.out 2).trans rfl, (blk_cell BK131.out 3).trans rfl, (blk_cell BK131.out 4).trans rfl, (blk_cell BK131.out 5).trans rfl, (blk_cell BK131.out 6).trans rfl, (blk_cell BK131.out 7).trans rfl, (blk_cell BK131.out 8).trans rfl, (blk_cell BK126.out 0).trans rfl, (blk_cell BK126.out 1).trans rfl, (blk_cell BK126.out 2).trans rfl, (blk_cell BK126.out 3).trans rfl, (blk_cell BK126.out 4).trans rfl, (blk_cell BK126.out 5).trans rfl, (blk_cell BK126.out 6).trans rfl, (blk_cell BK126.out 7).trans rfl, (blk_cell BK126.out 8).trans rfl⟩ (fun hHeld => ?_)
                        clear hK K
                        refine norm_ (a' := ?_) ?_ ?_
                        rotate_left
                        · show Act.put _ (some 62) _ = _
                          simp only [Act.put, List.setIfInBounds_toArray, List.set_cons_zero, List.set_cons_succ, i64_w, i32_w]
                          rfl
                        refine pure_ (i := 11) (N := some 63) (v := ?_) (a' := ?_) #[true, true, true, true, true, true, true, true, true, true, true, true, false] rfl rfl (any_of HT_.out (by kernel_rfl)) (fun _ _ _ h => h) (Or.inl ⟨by rfl, ?_⟩) ?_ ?_
                        rotate_left
                        · intro w'
                          go_simp
                          with_reducible rfl
                        rotate_left
                        · simp only [Act.put, List.setIfInBounds_toArray, List.set_cons_zero, List.set_cons_succ, i64_w, i32_w]
                          rfl
                        refine pure_ (i := 12) (N := some 6) (v := ?_) (a' := ?_) #[true, true, true, true, true, true, true, true, true, true, true, true, true] rfl rfl (any_of HT_.out (by kernel_rfl)) (fun _ _ _ h => h) (Or.inl ⟨by rfl, ?_⟩) ?_ ?_
                        rotate_left
                        · intro w'
                          go_simp
                          with_reducible rfl
                        rotate_left
                        · simp only [Act.put, List.setIfInBounds_toArray, List.set_cons_zero, List.set_cons_succ, i64_w, i32_w]
                          rfl
                        refine done_ (done_of HT_.out (by kernel_rfl)) ?_
                        try go_wp2
                        go_ret
                        exact ⟨by first | rfl | (simp [errW_none, errW_some] <;> rfl) | (simp [*, errW_none, errW_some] <;> rfl), by repeat (first | (with_reducible first | exact HB.out | apply below_alloc | apply pw_below_drewN | apply below_drew1 | refine below_set ?_ GE126.out | refine below_set ?_ GE131.out) | exact HB.out)⟩
                      · rw [if_neg c44] at H
                        have c44b0 : (t144.toList == t148.toList) = false := beq_eq_false_iff_ne.mpr c44
                        have c44b1 : (t144.toList != t148.toList) = true := bne_iff_ne.mpr c44
                        obtain rfl := Option.some.inj H
                        try go_wp2
                        have n0_ := Aside0.mk (Kd.R_drew HO_8.out)
                        have n1_ := Aside0.mk (blk_drew BK126.out)
                        have n2_ := Aside0.mk (blk_drew BK131.out)
                        have n3_ := Aside0.mk (below_drew1 HB.out)
                        clear HO_8
                        clear BK126
                        clear BK131
                        clear HB
                        have HO_8 := n0_
                        have BK126 := n1_
                        have BK131 := n2_
                        have HB := n3_
                        clear n0_ n1_ n2_ n3_
                        refine start_ (n := 13) (S := fun w' => w'.cell? ⟨gb131, 0, none⟩ = some (.int .i64 (wrap64 (Int.tmod a2 4))) ∧ w'.cell? ⟨gb131, 1, none⟩ = some (.string a1_1) ∧ w'.cell? ⟨gb131, 2, none⟩ = some (.string a1_2) ∧ w'.cell? ⟨gb131, 3, none⟩ = some (.string a1_3) ∧ w'.cell? ⟨gb131, 4, none⟩ = some (.string a1_4) ∧ w'.cell? ⟨gb131, 5, none⟩ = some (.string a1_5) ∧ w'.cell? ⟨gb131, 6, none⟩ = some (.string a1_6) ∧ w'.cell? ⟨gb131, 7, none⟩ = some (.string a1_7) ∧ w'.cell? ⟨gb131, 8, none⟩ = some (.string a1_8) ∧ w'.cell? ⟨gb126, 0, none⟩ = some (.int .i64 a1_0) ∧ w'.cell? ⟨gb126, 1, none⟩ = some (.string a1_1) ∧ w'.cell? ⟨gb126, 2, none⟩ = some (.string a1_2) ∧ w'.cell? ⟨gb126, 3, none⟩ = some (.string a1_3) ∧ w'.cell? ⟨gb126, 4, none⟩ = some (.string a1_4) ∧ w'.cell? ⟨gb126, 5, none⟩ = some (.string a1_5) ∧ w'.cell? ⟨gb126, 6, none⟩ = some (.string a1_6) ∧ w'.cell? ⟨gb126, 7, none⟩ = some (.string a1_7) ∧ w'.cell? ⟨gb126, 8, none⟩ = some (.string a1_8)) (ds := []) #[false, false, false, false, false, false, false, false, false, false, false, false, false] (by kernel_rfl) rfl rfl ⟨(blk_cell BK131.out 0).trans rfl, (blk_cell BK131.out 1).trans rfl, (blk_cell BK131.out 2).trans rfl, (blk_cell BK131.out 3).trans rfl, (blk_cell BK131.out 4).trans rfl, (blk_cell BK131.out 5).trans rfl, (blk_cell BK131.out 6).trans rfl, (blk_cell BK131.out 7).trans rfl, (blk_cell BK131.out 8).trans rfl, (blk_cell BK126.out 0).trans rfl, (blk_cell BK126.out 1).trans rfl, (blk_cell BK126.out 2).trans rfl, (blk_cell BK126.out 3).trans rfl, (blk_cell BK126.out 4).trans rfl, (blk_cell BK126.out 5).trans rfl, (blk_cell BK126.out 6).trans rfl, (blk_cell BK126.out 7).trans rfl, (blk_cell BK126.out 8).trans rfl⟩ (fun hHeld => ?_); refine with_tabW laws_FnListFormat.tab13 laws_FnListFormat.bits13 (fun HT_ HW_ => ?_)
                        generalize wr.drew = w54 at HO_8 BK126 BK131 HB hHeld ⊢
                        refine pure_ (i := 0) (N := some 52) (v := ?_) (a' := ?_) #[true, false, false, false, false, false, false, false, false, false, false, false, false] rfl rfl (any_of HT_.out (by kernel_rfl)) (fun _ _ _ h => h) (Or.inl ⟨by rfl, ?_⟩) ?_ ?_
                        rotate_left
                        · intro w'
                          go_simp
                          with_reducible rfl
                        rotate_left
                        · simp only [Act.put, List.setIfInBounds_toArray, List.set_cons_zero, List.set_cons_succ, i64_w, i32_w]
                          rfl
                        refine pure_ (i := 4) (N := some 56) (v := ?_) (a' := ?_) #[true, false, false, false, true, false, false, false, false, false, false, false, false] rfl rfl (any_of HT_.out (by kernel_rfl)) (fun _ _ _ h => h) (Or.inl ⟨by rfl, ?_⟩) ?_ ?_
                        rotate_left
                        · intro w'
                          go_simp
                          with_reducible rfl
                        rotate_left
                        · simp only [Act.put, List.setIfInBounds_toArray, List.set_cons_zero, List.set_cons_succ, i64_w, i32_w]
                          rfl
                        refine take_ (i := 2) (N := some 54) (v := ?_) (a' := ?_) #[true, false, true, false, true, false, false, false, false, false, false, false, false] rfl rfl (take_ofW HT_.out HW_.out (by kernel_rfl)) (fun _ _ _ h => h) (Or.inl ⟨by rfl, ?_⟩) hHeld ?_ ?_
                        rotate_left
                        · rintro w' ⟨s0, s1, s2, s3, s4, s5, s6, s7, s8, s9, s10, s11, s12, s13, s14, s15, s16, s17⟩
                          go_simp
                          with_reducible rfl
                        rotate_left
                        · simp only [Act.put, List.setIfInBounds_toArray, List.set_cons_zero, List.set_cons_succ, i64_w, i32_w]
                          rfl
                        refine take_ (i := 6) (N := some 58) (v := ?_) (a' := ?_) #[true, false, true, false, true, false, true, false, false, false, false, false, false] rfl rfl (take_ofW HT_.out HW_.out (by kernel_rfl)) (fun _ _ _ h => h) (Or.inl ⟨by rfl, ?_⟩) hHeld ?_ ?_
                        rotate_left
                        · rintro w' ⟨s0, s1, s2, s3, s4, s5, s6, s7, s8, s9, s10, s11, s12, s13, s14, s15, s16, s17⟩
                          go_simp
                          with_reducible rfl
                        rotate_left
                        · simp only [Act.put, List.setIfInBounds_toArray, List.set_cons_zero, List.set_cons_succ, i64_w, i32_w]
                          rfl
                        refine one_ (i := 1) (N := some 53) #[true, true, true, false, true, false, true, false, false, false, false, false, false] rfl rfl (one_of HT_.out (by kernel_rfl)) (by decide) (fun K hK => ?_)
                        refine goes_ Tryd.func12 (by kernel_rfl) rfl #[.slice A0 l0.length c0] (by rfl) rfl rfl (by (try simp only [List.map_toArray, List.map_cons, List.map_nil]); first | done | rfl | (simp only [List.length_drop, List.length_take]; rfl)) ?_
                        with_reducible refine (spec_LsSteps.calls k3 _ _ l0 t141 _ ?side1 ?side2 A40.out).mono ?_
                        (case side1 => repeat (first | exact (Kd.C_below HR0.out HB.out) | (with_reducible refine Kd.C_alloc ?_ _) | (with_reducible refine Kd.C_drewN ?_ _) | (with_reducible refine Kd.C_drew ?_)))
                        (case side2 => exact HC0.out)
                        rintro e w55 ⟨v142, rfl, ho0, hb⟩
                        refine ⟨_, rfl, ?_⟩
                        have n0_ := Aside0.mk (Kd.R_below (by (with_reducible repeat (first | apply Kd.R_alloc | apply Kd.R_drewN | apply Kd.R_drew)); exact HO_8.out) hb)
                        have n1_ := Aside0.mk (Kd.S_lower ho0 (below_size (by repeat (first | (with_reducible first | exact HB.out | apply below_alloc | apply pw_below_drewN | apply below_drew1 | refine below_set ?_ GE126.out | refine below_set ?_ GE131.out) | exact HB.out))))
                        have n2_ := Aside0.mk (blk_below (g := gb126) (o := .cells #[.int .i64 a1_0, .string a1_1, .string a1_2, .string a1_3, .string a1_4, .string a1_5, .string a1_6, .string a1_7, .string a1_8] 24 (0, 0)) (by (with_reducible repeat (first | refine blk_drewN ?_ _ | refine blk_drew ?_ | refine blk_alloc ?_ _)); exact BK126.out) hb)
                        have n3_ := Aside0.mk (blk_below (g := gb131) (o := .cells #[.int .i64 (wrap64 (Int.tmod a2 4)), .string a1_1, .string a1_2, .string a1_3, .string a1_4, .string a1_5, .string a1_6, .string a1_7, .string a1_8] 24 (0, 0)) (by (with_reducible repeat (first | refine blk_drewN ?_ _ | refine blk_drew ?_ | refine blk_alloc ?_ _)); exact BK131.out) hb)
                        have n4_ := Aside0.mk (below_step (by repeat (first | (with_reducible first | exact HB.out | apply below_alloc | apply pw_below_drewN | apply below_drew1 | refine below_set ?_ GE126.out | refine below_set ?_ GE131.out) | exact HB.out)) hb)
                        clear HO_8
                        clear BK126
                        clear BK131
                        clear HB
                        have HO_8 := n0_
                        have HO143 := n1_
                        have BK126 := n2_
                        have BK131 := n3_
                        have HB := n4_
                        clear n0_ n1_ n2_ n3_ n4_
                        (try clear hb)
                        (try clear hb2)
                        (try clear hk)
                        (try clear hi)
                        (try clear ho0)
                        obtain ⟨Ao56, co56, eo56⟩ := Kd.S_slice HO143.out
                        (first | subst eo56 | (injection eo56 with f1_ f2_ f3_; have f4_ := f1_.symm; have f5_ := f3_.symm; clear f1_ f2_ f3_; subst f4_; subst f5_))
                        refine hK.out _ _ ⟨(blk_cell BK131.out 0).trans rfl, (blk_cell BK131.out 1).trans rfl, (blk_cell BK131.out 2).trans rfl, (blk_cell BK131.out 3).trans rfl, (blk_cell BK131.out 4).trans rfl, (blk_cell BK131.out 5).trans rfl, (blk_cell BK131.out 6).trans rfl, (blk_cell BK131.out 7).trans rfl, (blk_cell BK131.out 8).trans rfl, (blk_cell BK126.out 0).trans rfl, (blk_cell BK126.out 1).trans rfl, (blk_cell BK126.out 2).trans rfl, (blk_cell BK126.out 3).trans rfl, (blk_cell BK126.out 4).trans rfl, (blk_cell BK126.out 5).trans rfl, (blk_cell BK126.out 6).trans rfl, (blk_cell BK126.out 7).trans rfl, (blk_cell BK126.out 8).trans rfl⟩ (fun hHeld => ?_)
                        clear hK K
                        refine norm_ (a' := ?_) ?_ ?_
                        rotate_left
                        · show Act.put _ (some 53) _ = _
                          simp only [Act.put, List.setIfInBounds_toArray, List.set_cons_zero, List.set_cons_succ, i64_w, i32_w]
                          rfl
                        refine one_ (i := 3) (N := some 55) #[true, true, true, true, true, false, true, false, false, false, false, false, false] rfl rfl (one_of HT_.out (by kernel_rfl)) (by decide) (fun K hK => ?_)
                        refine goes_ Tryd.func11 (by kernel_rfl) rfl #[.slice Ao56 t141.length co56, .agg #[.int .i64 (wrap64 (Int.tmod a2 4)), .string a1_1, .string a1_2, .string a1_3, .string a1_4, .string a1_5, .string a1_6, .string a1_7, .string a1_8]] (by rfl) rfl rfl (by (try simp only [List.map_toArray, List.map_cons, List.map_nil]); first | done | rfl | (simp only [List.length_drop, List.length_take]; rfl)) ?_
                        with_reducible refine (impl_ListRender.calls _ _ t141 (wrap64 (Int.tmod a2 4)) a1_1 a1_2 a1_3 a1_4 a1_5 a1_6 a1_7 a1_8 t144 _ (tab_step HTW.out (by repeat (first | (with_reducible first | exact HB.out | apply below_alloc | apply pw_below_drewN | apply below_drew1) | exact HB.out))) ?side1 ?side2 A41.out).mono ?_
                        (case side1 => repeat (first | exact (Kd.S_reads' HO143.out).2.2 | (with_reducible refine Kd.C_alloc ?_ _) | (with_reducible refine Kd.C_drewN ?_ _) | (with_reducible refine Kd.C_drew ?_)))
                        (case side2 => exact (Kd.S_reads' HO143.out).2.1)
                        rintro e w57 ⟨rfl, hb⟩
                        refine ⟨_, rfl, ?_⟩
                        have n0_ := Aside0.mk (Kd.R_below (by (with_reducible repeat (first | apply Kd.R_alloc | apply Kd.R_drewN | apply Kd.R_drew)); exact HO_8.out) hb)
                        have n1_ := Aside0.mk (Kd.S_below (by (with_reducible repeat (first | apply Kd.S_alloc | apply Kd.S_drewN | apply Kd.S_drew)); exact HO143.out) hb)
                        have n2_ := Aside0.mk (blk_below (g := gb126) (o := .cells #[.int .i64 a1_0, .string a1_1, .string a1_2, .string a1_3, .string a1_4, .string a1_5, .string a1_6, .string a1_7, .string a1_8] 24 (0, 0)) (by (with_reducible repeat (first | refine blk_drewN ?_ _ | refine blk_drew ?_ | refine blk_alloc ?_ _)); exact BK126.out) hb)
                        have n3_ := Aside0.mk (blk_below (g := gb131) (o := .cells #[.int .i64 (wrap64 (Int.tmod a2 4)), .string a1_1, .string a1_2, .string a1_3, .string a1_4, .string a1_5, .string a1_6, .string a1_7, .string a1_8] 24 (0, 0)) (by (with_reducible repeat (first | refine blk_drewN ?_ _ | refine blk_drew ?_ | refine blk_alloc ?_ _)); exact BK131.out) hb)
                        have n4_ := Aside0.mk (below_step (by repeat (first | (with_reducible first | exact HB.out | apply below_alloc | apply pw_below_drewN | apply below_drew1 | refine below_set ?_ GE126.out | refine below_set ?_ GE131.out) | exact HB.out)) hb)
                        clear HO_8
                        clear HO143
                        clear BK126
                        clear BK131
                        clear HB
                        have HO_8 := n0_
                        have HO143 := n1_
                        have BK126 := n2_
                        have BK131 := n3_
                        have HB := n4_
                        clear n0_ n1_ n2_ n3_ n4_
                        (try clear hb)
                        (try clear hb2)
                        (try clear hk)
                        (try clear hi)
                        refine hK.out _ _ ⟨(blk_cell BK131.out 0).trans rfl, (blk_cell BK131.out 1).trans rfl, (blk_cell BK131.out 2).trans rfl, (blk_cell BK131.out 3).trans rfl, (blk_cell BK131.out 4).trans rfl, (blk_cell BK131.out 5).trans rfl, (blk_cell BK131.out 6).trans rfl, (blk_cell BK131.out 7).trans rfl, (blk_cell BK131.out 8).trans rfl, (blk_cell BK126.out 0).trans rfl, (blk_cell BK126.out 1).trans rfl, (blk_cell BK126.out 2).trans rfl, (blk_cell BK126.out 3).trans rfl, (blk_cell BK126.out 4).trans rfl, (blk_cell BK126.out 5).trans rfl, (blk_cell BK126.out 6).trans rfl, (blk_cell BK126.out 7).trans rfl, (blk_cell BK126.out 8).trans rfl⟩ (fun hHeld => ?_)
                        clear hK K
                        refine norm_ (a' := ?_) ?_ ?_
                        rotate_left
                        · show Act.put _ (some 55) _ = _
                          simp only [Act.put, List.setIfInBounds_toArray, List.set_cons_zero, List.set_cons_succ, i64_w, i32_w]
                          rfl
                        refine one_ (i := 5) (N := some 57) #[true, true, true, true, true, true, true, false, false, false, false, false, false] rfl rfl (one_of HT_.out (by kernel_rfl)) (by decide) (fun K hK => ?_)
                        refine goes_ Tryd.func12 (by kernel_rfl) rfl #[.slice Ao31 x8_3.length co31] (by rfl) rfl rfl (by (try simp only [List.map_toArray, List.map_cons, List.map_nil]); first | done | rfl | (simp only [List.length_drop, List.length_take]; rfl)) ?_
                        with_reducible refine (spec_LsSteps.calls k3 _ _ x8_3 t145 _ ?side1 ?side2 A42.out).mono ?_
                        (case side1 => repeat (first | exact (Kd.R_reads' HO_8.out).2.2 | (with_reducible refine Kd.C_alloc ?_ _) | (with_reducible refine Kd.C_drewN ?_ _) | (with_reducible refine Kd.C_drew ?_)))
                        (case side2 => exact (Kd.R_reads' HO_8.out).2.1)
                        rintro e w58 ⟨v146, rfl, ho0, hb⟩
                        refine ⟨_, rfl, ?_⟩
                        have n0_ := Aside0.mk (Kd.R_below (by (with_reducible repeat (first | apply Kd.R_alloc | apply Kd.R_drewN | apply Kd.R_drew)); exact HO_8.out) hb)
                        have n1_ := Aside0.mk (Kd.S_elder' (by (with_reducible repeat (first | apply Kd.S_alloc | apply Kd.S_drewN | apply Kd.S_drew)); exact HO143.out) (Kd.S_base ho0) hb)
                        have n2_ := Aside0.mk (Kd.S_lower (Kd.S_new' ho0 (Kd.S_lt (by (with_reducible repeat (first | apply Kd.S_alloc | apply Kd.S_drewN | apply Kd.S_drew)); exact HO143.out))) (below_size (by repeat (first | (with_reducible first | exact HB.out | apply below_alloc | apply pw_below_drewN | apply below_drew1 | refine below_set ?_ GE126.out | refine below_set ?_ GE131.out) | exact HB.out))))
                        have n3_ := Aside0.mk (blk_below (g := gb126) (o := .cells #[.int .i64 a1_0, .string a1_1, .string a1_2, .string a1_3, .string a1_4, .string a1_5, .string a1_6, .string a1_7, .string a1_8] 24 (0, 0)) (by (with_reducible repeat (first | refine blk_drewN ?_ _ | refine blk_drew ?_ | refine blk_alloc ?_ _)); exact BK126.out) hb)
                        have n4_ := Aside0.mk (blk_below (g := gb131) (o := .cells #[.int .i64 (wrap64 (Int.tmod a2 4)), .string a1_1, .string a1_2, .string a1_3, .string a1_4, .string a1_5, .string a1_6, .string a1_7, .string a1_8] 24 (0, 0)) (by (with_reducible repeat (first | refine blk_drewN ?_ _ | refine blk_drew ?_ | refine blk_alloc ?_ _)); exact BK131.out) hb)
                        have n5_ := Aside0.mk (below_step (by repeat (first | (with_reducible first | exact HB.out | apply below_alloc | apply pw_below_drewN | apply below_drew1 | refine below_set ?_ GE126.out | refine below_set ?_ GE131.out) | exact HB.out)) hb)
                        clear HO_8
                        clear HO143
                        clear BK126
                        clear BK131
                        clear HB
                        have HO_8 := n0_
                        have HO143 := n1_
                        have HO147 := n2_
                        have BK126 := n3_
                        have BK131 := n4_
                        have HB := n5_
                        clear n0_ n1_ n2_ n3_ n4_ n5_
                        (try clear hb)
                        (try clear hb2)
                        (try clear hk)
                        (try clear hi)
                        (try clear ho0)
                        obtain ⟨Ao59, co59, eo59⟩ := Kd.S_slice HO147.out
                        (first | subst eo59 | (injection eo59 with f1_ f2_ f3_; have f4_ := f1_.symm; have f5_ := f3_.symm; clear f1_ f2_ f3_; subst f4_; subst f5_))
                        refine hK.out _ _ ⟨(blk_cell BK131.out 0).trans rfl, (blk_cell BK131.out 1).trans rfl, (blk_cell BK131.out 2).trans rfl, (blk_cell BK131.out 3).trans rfl, (blk_cell BK131.out 4).trans rfl, (blk_cell BK131.out 5).trans rfl, (blk_cell BK131.out 6).trans rfl, (blk_cell BK131.out 7).trans rfl, (blk_cell BK131.out 8).trans rfl, (blk_cell BK126.out 0).trans rfl, (blk_cell BK126.out 1).trans rfl, (blk_cell BK126.out 2).trans rfl, (blk_cell BK126.out 3).trans rfl, (blk_cell BK126.out 4).trans rfl, (blk_cell BK126.out 5).trans rfl, (blk_cell BK126.out 6).trans rfl, (blk_cell BK126.out 7).trans rfl, (blk_cell BK126.out 8).trans rfl⟩ (fun hHeld => ?_)
                        clear hK K
                        refine norm_ (a' := ?_) ?_ ?_
                        rotate_left
                        · show Act.put _ (some 57) _ = _
                          simp only [Act.put, List.setIfInBounds_toArray, List.set_cons_zero, List.set_cons_succ, i64_w, i32_w]
                          rfl
                        refine one_ (i := 7) (N := some 59) #[true, true, true, true, true, true, true, true, false, false, false, false, false] rfl rfl (one_of HT_.out (by kernel_rfl)) (by decide) (fun K hK => ?_)
                        refine goes_ Tryd.func11 (by kernel_rfl) rfl #[.slice Ao59 t145.length co59, .agg #[.int .i64 a1_0, .string a1_1, .string a1_2, .string a1_3, .string a1_4, .string a1_5, .string a1_6, .string a1_7, .string a1_8]] (by rfl) rfl rfl (by (try simp only [List.map_toArray, List.map_cons, List.map_nil]); first | done | rfl | (simp only [List.length_drop, List.length_take]; rfl)) ?_
                        with_reducible refine (impl_ListRender.calls _ _ t145 a1_0 a1_1 a1_2 a1_3 a1_4 a1_5 a1_6 a1_7 a1_8 t148 _ (tab_step HTW.out (by repeat (first | (with_reducible first | exact HB.out | apply below_alloc | apply pw_below_drewN | apply below_drew1) | exact HB.out))) ?side1 ?side2 A43.out).mono ?_
                        (case side1 => repeat (first | exact (Kd.S_reads' HO147.out).2.2 | (with_reducible refine Kd.C_alloc ?_ _) | (with_reducible refine Kd.C_drewN ?_ _) | (with_reducible refine Kd.C_drew ?_)))
                        (case side2 => exact (Kd.S_reads' HO147.out).2.1)
                        rintro e w60 ⟨rfl, hb⟩
                        refine ⟨_, rfl, ?_⟩
                        have n0_ := Aside0.mk (Kd.R_below (by (with_reducible repeat (first | apply Kd.R_alloc | apply Kd.R_drewN | apply Kd.R_drew)); exact HO_8.out) hb)
                        have n1_ := Aside0.mk (Kd.S_below (by (with_reducible repeat (first | apply Kd.S_alloc | apply Kd.S_drewN | apply Kd.S_drew)); exact HO143.out) hb)
                        have n2_ := Aside0.mk (Kd.S_below (by (with_reducible repeat (first | apply Kd.S_alloc | apply Kd.S_drewN | apply Kd.S_drew)); exact HO147.out) hb)
                        have n3_ := Aside0.mk (blk_below (g := gb126) (o := .cells #[.int .i64 a1_0, .string a1_1, .string a1_2, .string a1_3, .string a1_4, .string a1_5, .string a1_6, .string a1_7, .string a1_8] 24 (0, 0)) (by (with_reducible repeat (first | refine blk_drewN ?_ _ | refine blk_drew ?_ | refine blk_alloc ?_ _)); exact BK126.out) hb)
                        have n4_ := Aside0.mk (blk_below (g := gb131) (o := .cells #[.int .i64 (wrap64 (Int.tmod a2 4)), .string a1_1, .string a1_2, .string a1_3, .string a1_4, .string a1_5, .string a1_6, .string a1_7, .string a1_8] 24 (0, 0)) (by (with_reducible repeat (first | refine blk_drewN ?_ _ | refine blk_drew ?_ | refine blk_alloc ?_ _)); exact BK131.out) hb)
                        have n5_ := Aside0.mk (below_step (by repeat (first | (with_reducible first | exact HB.out | apply below_alloc | apply pw_below_drewN | apply below_drew1 | refine below_set ?_ GE126.out | refine below_set ?_ GE131.out) | exact HB.out)) hb)
                        clear HO_8
                        clear HO143
                        clear HO147
                        clear BK126
                        clear BK131
                        clear HB
                        have HO_8 := n0_
                        have HO143 := n1_
                        have HO147 := n2_
                        have BK126 := n3_
                        have BK131 := n4_
                        have HB := n5_
                        clear n0_ n1_ n2_ n3_ n4_ n5_
                        (try clear hb)
                        (try clear hb2)
                        (try clear hk)
                        (try clear hi)
                        refine hK.out _ _ ⟨(blk_cell BK131.out 0).trans rfl, (blk_cell BK131.out 1).trans rfl, (blk_cell BK131.out 2).trans rfl, (blk_cell BK131.out 3).trans rfl, (blk_cell BK131.out 4).trans rfl, (blk_cell BK131.out 5).trans rfl, (blk_cell BK131.out 6).trans rfl, (blk_cell BK131.out 7).trans rfl, (blk_cell BK131.out 8).trans rfl, (blk_cell BK126.out 0).trans rfl, (blk_cell BK126.out 1).trans rfl, (blk_cell BK126.out 2).trans rfl, (blk_cell BK126.out 3).trans rfl, (blk_cell BK126.out 4).trans rfl, (blk_cell BK126.out 5).trans rfl, (blk_cell BK126.out 6).trans rfl, (blk_cell BK126.out 7).trans rfl, (blk_cell BK126.out 8).trans rfl⟩ (fun hHeld => ?_)
                        clear hK K
                        refine norm_ (a' := ?_) ?_ ?_
                        rotate_left
                        · show Act.put _ (some 59) _ = _
                          simp only [Act.put, List.setIfInBounds_toArray, List.set_cons_zero, List.set_cons_succ, i64_w, i32_w]
                          rfl
                        refine pure_ (i := 8) (N := some 60) (v := ?_) (a' := ?_) #[true, true, true, true, true, true, true, true, true, false, false, false, false] rfl rfl (any_of HT_.out (by kernel_rfl)) (fun _ _ _ h => h) (Or.inl ⟨by rfl, ?_⟩) ?_ ?_
                        rotate_left
                        · intro w'
                          go_simp
                          with_reducible rfl
                        rotate_left
                        · simp only [Act.put, List.setIfInBounds_toArray, List.set_cons_zero, List.set_cons_succ, i64_w, i32_w]
                          rfl
                        refine pure_ (i := 9) (N := some 61) (v := ?_) (a' := ?_) #[true, true, true, true, true, true, true, true, true, true, false, false, false] rfl rfl (any_of HT_.out (by kernel_rfl)) (fun _ _ _ h => h) (Or.inl ⟨by rfl, ?_⟩) ?_ ?_
                        rotate_left
                        · intro w'
                          go_simp
                          with_reducible rfl
                        rotate_left
                        · simp only [Act.put, List.setIfInBounds_toArray, List.set_cons_zero, List.set_cons_succ, i64_w, i32_w]
                          rfl
                        refine pure_ (i := 10) (N := some 62) (v := undef) (a' := ?_) #[true, true, true, true, true, true, true, true, true, true, true, false, false] rfl rfl (any_of HT_.out (by kernel_rfl)) (fun _ _ _ h => h) (Or.inr ⟨by rfl, rfl⟩) ?_ ?_
                        rotate_left
                        · simp only [Act.put, List.setIfInBounds_toArray, List.set_cons_zero, List.set_cons_succ, i64_w, i32_w]
                          rfl
                        refine pure_ (i := 11) (N := some 63) (v := ?_) (a' := ?_) #[true, true, true, true, true, true, true, true, true, true, true, true, false] rfl rfl (any_of HT_.out (by kernel_rfl)) (fun _ _ _ h => h) (Or.inl ⟨by rfl, ?_⟩) ?_ ?_
                        rotate_left
                        · intro w'
                          go_simp
                          with_reducible rfl
                        rotate_left
                        · simp only [Act.put, List.setIfInBounds_toArray, List.set_cons_zero, List.set_cons_succ, i64_w, i32_w]
                          rfl
                        refine pure_ (i := 12) (N := some 6) (v := ?_) (a' := ?_) #[true, true, true, true, true, true, true, true, true, true, true, true, true] rfl rfl (any_of HT_.out (by kernel_rfl)) (fun _ _ _ h => h) (Or.inl ⟨by rfl, ?_⟩) ?_ ?_
                        rotate_left
                        · intro w'
                          go_simp
                          with_reducible rfl
                        rotate_left
                        · simp only [Act.put, List.setIfInBounds_toArray, List.set_cons_zero, List.set_cons_succ, i64_w, i32_w]
                          rfl
                        refine done_ (done_of HT_.out (by kernel_rfl)) ?_
                        try go_wp2
                        go_ret
                        exact ⟨by first | rfl | (simp [errW_none, errW_some] <;> rfl) | (simp [*, errW_none, errW_some] <;> rfl), by repeat (first | (with_reducible first | exact HB.out | apply below_alloc | apply pw_below_drewN | apply below_drew1 | refine below_set ?_ GE126.out | refine below_set ?_ GE131.out) | exact HB.out)⟩
              · rw [if_neg c23] at H
                exact absurd H (by simp)

end Go.Proofs.YtphnnbbgcnilgaaDoor.GFnListFormat
