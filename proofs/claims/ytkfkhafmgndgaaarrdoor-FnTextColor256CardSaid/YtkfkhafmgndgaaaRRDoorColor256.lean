/-
  Proved: the tied card of laws.FnTextColor256: for every index the law returns true. Conditions: none beyond the card's own.
-/
import Derived.Test.YtkfkhafmgndgaaaRRDoorColor
import Derived.Test.YtkfkhafmgndgaaaRRDoorRows
import Derived.Test.YtkfkhafmgndgaaaRRDoorCards
import Derived.Test.YtkfkhafmgndgaaaRRDoorTie
import Derived.WalkKit
import Derived.ProofKit
import Derived.OpenShut
import Derived.Deep.DeepHandedRow
import Derived.Lib.LaidTab
import Derived.Stop.LaidErr
namespace Go.Proofs.YtkfkhafmgndgaaaRRDoor.fnTextColor256
open Go.ChangeShapes Go.WideShapes Go.ChangeAt Go.RowKit Go.Proofs.YtkfkhafmgndgaaaRRDoorW.PrintWords Go.Proofs.YtkfkhafmgndgaaaRRDoor.Color
set_option linter.unusedVariables false

/-! ### THE PLAIN LAW -/
theorem dec_it (n : Nat) : itB (n : Int) = decB n := by
  unfold itB decB
  rw [Lib.itoa_nonneg]
theorem it38 : itB 38 = ⟨#[51, 56]⟩ := by decide +kernel
theorem it48 : itB 48 = ⟨#[52, 56]⟩ := by decide +kernel
theorem it5 : itB 5 = ⟨#[53]⟩ := by decide +kernel
theorem law_fg (n : Nat) : seqB [38, 5, (n : Int)] = fgSeq n := by
  have e : seqB [38, 5, (n : Int)] = ((((((⟨#[27, 91]⟩ ++ itB 38) ++ ⟨#[59]⟩) ++ itB 5) ++ ⟨#[59]⟩) ++ itB n) ++ ⟨#[109]⟩) := rfl
  rw [e, dec_it, it38, it5]
  unfold fgSeq
  apply ByteArray.ext
  simp [ByteArray.data_append]
theorem law_bg (n : Nat) : seqB [48, 5, (n : Int)] = bgSeq n := by
  have e : seqB [48, 5, (n : Int)] = ((((((⟨#[27, 91]⟩ ++ itB 48) ++ ⟨#[59]⟩) ++ itB 5) ++ ⟨#[59]⟩) ++ itB n) ++ ⟨#[109]⟩) := rfl
  rw [e, dec_it, it48, it5]
  unfold bgSeq
  apply ByteArray.ext
  simp [ByteArray.data_append]

/-! ### THE WALK -/
theorem row3 (w : World) (x y z : Int) : Kd.C (Kd.int .i64) (w.alloc (.cells #[.int .i64 x, .int .i64 y, .int .i64 z] 3)) (some ⟨w.heap.size, 0, none⟩) 3 [x, y, z] := by
  refine Kd.C_of_reads (enc := Value.int .i64) (d := (0 : Int)) (h1 := fun _ => rfl) ⟨rfl, by decide, fun _ => ⟨_, rfl, fun j hj => ?_⟩⟩
  have hc := cell_of_row (w.alloc (.cells #[.int .i64 x, .int .i64 y, .int .i64 z] 3)) w.heap.size j _ 3 (0, 0) (heap_alloc_new _ _)
  rcases j with _ | _ | _ | j
  · exact hc
  · exact hc
  · exact hc
  · omega
set_option maxRecDepth 100000 in
set_option maxHeartbeats 1000000 in
theorem walk (n : Nat) (hn : n < 256) (w : World) (ht : T w.heap.size w) :
    Calls Tryd.prog 3 #[.int .u8 n] w fun e w' => e = .returned (.bool true) ∧ Below w.heap.size w w' := by
  have HT := Aside0.mk ht
  have F1 := fun w => Lib.hid (fg9 n hn w)
  have F2 := fun w => Lib.hid (bg11 n hn w)
  have G1 := fun w => Lib.hid (seq8_fg n hn w)
  have G2 := fun w => Lib.hid (seq8_bg n hn w)
  have e1 := Lib.hid (law_fg n)
  have e2 := Lib.hid (law_bg n)
  obtain ⟨S1, h1⟩ : ∃ S, S = fgSeq n := ⟨_, rfl⟩
  obtain ⟨S2, h2⟩ : ∃ S, S = bgSeq n := ⟨_, rfl⟩
  rw [← h1] at G1 e1
  rw [← h2] at G2 e2
  clear h1 h2 ht
  have Q1 : ∀ w1, Aside0 (Below w.heap.size w w1) → Calls Tryd.prog 10 #[.slice (some ⟨w1.heap.size, 0, none⟩) 3 3] (w1.alloc (.cells #[.int .i64 38, .int .i64 5, .int .i64 n] 3)) fun e w' => e = .returned (.string S1) ∧ Below w.heap.size w w' := fun w1 hb => by
    have hb2 : Below w.heap.size w (w1.alloc (.cells #[.int .i64 38, .int .i64 5, .int .i64 n] 3)) := hb.out.alloc hb.out.size _
    refine (seq _ 3 [38, 5, (n : Int)] _ w.heap.size hb2.size (HT.out.on hb2) (row3 w1 38 5 n) (by simp) (by simp) ?_).mono ?_
    · intro x hx
      simp only [List.mem_cons, List.mem_nil_iff, or_false] at hx
      unfold I64
      omega
    · rintro e w' ⟨rfl, hb3⟩
      exact ⟨by rw [e1.out], hb2.trans (hb3.mono hb2.size)⟩
  have Q2 : ∀ w1, Aside0 (Below w.heap.size w w1) → Calls Tryd.prog 10 #[.slice (some ⟨w1.heap.size, 0, none⟩) 3 3] (w1.alloc (.cells #[.int .i64 48, .int .i64 5, .int .i64 n] 3)) fun e w' => e = .returned (.string S2) ∧ Below w.heap.size w w' := fun w1 hb => by
    have hb2 : Below w.heap.size w (w1.alloc (.cells #[.int .i64 48, .int .i64 5, .int .i64 n] 3)) := hb.out.alloc hb.out.size _
    refine (seq _ 3 [48, 5, (n : Int)] _ w.heap.size hb2.size (HT.out.on hb2) (row3 w1 48 5 n) (by simp) (by simp) ?_).mono ?_
    · intro x hx
      simp only [List.mem_cons, List.mem_nil_iff, or_false] at hx
      unfold I64
      omega
    · rintro e w' ⟨rfl, hb3⟩
      exact ⟨by rw [e2.out], hb2.trans (hb3.mono hb2.size)⟩
  have q1 : (S1.toList == S1.toList) = true := beq_self_eq_true _
  have q2 : (S2.toList == S2.toList) = true := beq_self_eq_true _
  go_enter Tryd.func3, Tryd.ntmps3
  go_wp2_with (first
    | (go_at_call 9; refine (F1 _).out.mono ?_; rintro e w1 ⟨rfl, rfl⟩)
    | (go_at_call 11; refine (F2 _).out.mono ?_; rintro e w1 ⟨rfl, rfl⟩)
    | (have _g := HB3; go_at_call 10; refine (Q2 _ HB3).mono ?_; rintro e w4 ⟨rfl, hb⟩; have HB4 := Aside0.mk hb; clear hb _g)
    | (have _g := HB2; go_at_call 8; refine (G2 _).out.mono ?_; rintro e w3 ⟨rfl, hb⟩; have HB3 := Aside0.mk (HB2.out.trans (hb.mono HB2.out.size)); clear hb _g)
    | (have _g := HB1; go_at_call 10; refine (Q1 _ HB1).mono ?_; rintro e w2 ⟨rfl, hb⟩; have HB2 := Aside0.mk hb; clear hb _g)
    | (go_at_call 8; refine (G1 _).out.mono ?_; rintro e w1 ⟨rfl, hb⟩; have HB1 := Aside0.mk hb; clear hb))
  go_ret
  exact ⟨rfl, HB4.out⟩

/-! ### THE ROW -/
theorem own : ownKnob Tryd.prog.godebug = none := by kernel_rfl
theorem gTab : Tryd.prog.globalNamed "internal/strconv.uint64pow10" = some 8 := by kernel_rfl
theorem table {W : World} (h : laidMetH Tryd.prog Rows.fnTextColor256Row.laid W) : Lib.TabIs Tryd.prog W "internal/strconv.uint64pow10" .u64 Lib.pow10Tab := by
  have h1 : laidMet Tryd.prog Rows.fnTextColor256Row.laid W := h
  have h2 := (laidMet.tail (laidMet.tail h1))
  exact Lib.tabIs_of_head (rest := []) (t := 106) (e := 81) (n := 20) gTab (by kernel_rfl) (by kernel_rfl) (by kernel_rfl) (by kernel_rfl) (by kernel_rfl) h2

set_option maxRecDepth 100000 in
theorem contract (H : Type) (enc : TypeId × Value → H) (W : World) (base : Nat) (args : Array Value) (ds gs : List (DataW H)) (before : List MemPlace)
    (hval : ∀ (j : Nat) t v, Tryd.f3.params[j]? = some t → args[j]? = some v → Value.okWide Tryd.prog W .any base t v)
    (hW : DataW.Whole enc Tryd.prog Tryd.f3.params.toList Rows.fnTextColor256Spec.vars false W args.toList ds gs before) (hL : laidMetH Tryd.prog Rows.fnTextColor256Row.laid W) :
    Calls Tryd.prog 3 args W fun e W' => ∃ v, e = .returned v ∧ Rows.fnTextColor256Spec.post enc Tryd.prog Tryd.f3 false true false false W args v W' := by
  have hW' := hW
  obtain ⟨p, q, hA0, hV, rfl, hfz, hnd⟩ := hW
  have hA : DataW.TrodAll enc Tryd.prog W 0 (fun _ => true) true Tryd.f3.params.toList args.toList ds p := hA0
  rw [Tryd.params3] at hA hval
  obtain ⟨v0, vs0, d0, ds0, p0, q0, hargs, rfl, rfl, h0, r0⟩ := trodAll_cons hA
  obtain ⟨rfl, rfl, rfl⟩ := trodAll_nil r0
  obtain rfl : args = #[v0] := by cases args; simp_all
  obtain ⟨rfl, rfl⟩ := trodVars_none hV
  obtain ⟨a0, rfl, rfl, rfl, w0⟩ := open_int Tryd.underlying5 (hval 0 5 v0 rfl rfl) h0
  clear hA0
  simp only [List.append_nil] at hW'
  have hb : 0 ≤ a0 ∧ a0 < 256 := by
    have h := w0
    simp only [Lit.wf, Bool.and_eq_true, decide_eq_true_eq] at h
    have h1 : IntKind.u8.min = 0 := by decide
    have h2 : IntKind.u8.max = 255 := by decide
    omega
  obtain ⟨n, rfl⟩ : ∃ n : Nat, a0 = n := ⟨a0.toNat, by omega⟩
  refine (walk n (by omega) W (Lib.tabBelow_of_tabIs (table hL))).mono fun e W' ⟨he, hg⟩ => ?_
  subst he
  exact ⟨_, rfl, _, _, _, [], _, [], hW', trodAll_mk1 (shut_bool Tryd.underlying4 _), trodAll_cons_mk (shut_int Tryd.underlying5 w0) trodAll_mk0, rfl, hg.frame _, fun h => by cases h⟩

/-- A WORLD FOR THE WITNESS: the settled one, the three tables holding what their initialisers lay. -/
def cellsOf : DataW Unit → Array Value
  | .agg xs => (xs.map fun | .lit (.int k z) => Value.int k z | _ => .bool false).toArray
  | _ => #[]
def put (w : World) (g : Nat) (d : DataW Unit) : World :=
  { w with heap := w.heap.modify g fun
      | .cells _ t frozen => .cells (cellsOf d) t frozen
      | o => o }
noncomputable def laidWorld (os : Os) : World :=
  put (put (put (World.holding Tryd.prog os ⟨#[], #[], []⟩) 8 Rows.laid_internal_strconv_uint64pow10) 10 Rows.laid_math_bits_deBruijn32tab) 11 Rows.laid_math_bits_deBruijn64tab
theorem laid_met (os : Os) : laidMet Tryd.prog Rows.fnTextColor256Row.laid ((laidWorld os).forCall (fun _ _ => 0) ⟨#[], #[.int .u8 0], []⟩).memory :=
  laidMet_of_run' 8 (by kernel_rfl) (by kernel_rfl)
theorem reads (os : Os) {H : Type} (enc : TypeId × Value → H) : ∃ places, DataW.whole enc Tryd.prog ((laidWorld os).forCall (fun _ _ => 0) ⟨#[], #[.int .u8 0], []⟩).memory Tryd.f3.params.toList Rows.fnTextColor256Spec.vars false #[Value.int .u8 0].toList 8 = some ([.lit (.int .u8 0)], [], places) :=
  ⟨[], by kernel_rfl⟩
set_option maxRecDepth 100000 in
theorem lifted (os : Os) (started : os.Started) (H : Type) (enc : TypeId × Value → H) (F : Stop.Interp) :
    ReturnsInHanded {} Tryd.checked os 3 .any ((OpenSpec.ofChange Rows.fnTextColor256Spec).preRow enc Tryd.prog Tryd.f3 Rows.fnTextColor256Row.domain false Rows.fnTextColor256Row.laid) (((OpenSpec.ofChange Rows.fnTextColor256Spec).at F).post enc Tryd.prog Tryd.f3 false true false false) := by
  obtain ⟨places, hx⟩ := reads os enc
  refine returnsInHanded_of_row (C := Tryd.checked) (s := OpenSpec.ofChange Rows.fnTextColor256Spec) own started (by kernel_rfl) Tryd.func3
    (witness_row_at (enc := enc) (C := Tryd.checked) false (laidWorld os) #[.int .u8 0] rfl (by kernel_rfl) (by kernel_rfl) (by kernel_rfl)
      (OpenSpec.preRow_of_cond 8 hx (by kernel_rfl) (fun k hk => by cases hk) (by kernel_rfl) (laid_met os))) ?_
  intro W base args ds gs before hval hW _ _ _ hL _ _
  exact contract H enc W base args ds gs before hval hW hL
theorem said : Rows.FnTextColor256Said :=
  OpenClaim.holds_of_cond 3 Tryd.f3 rfl rfl rfl rfl rfl rfl rfl ⟨rfl, rfl, rfl, rfl, rfl⟩ rfl rfl rfl rfl rfl (by kernel_rfl) Tryd.func3 (by kernel_rfl)
    (of_decide_eq_true (by kernel_rfl)) (by unfold Func.isWrapper; first | (rw [if_pos (by decide +kernel)]; kernel_rfl) | (rw [if_neg (by decide +kernel)]; exact ⟨rfl, rfl⟩))
    (fun os started H enc _ F => by rw [OpenClaim.pre_eq_preRow]; exact lifted os started H enc F)
theorem plain (f : FuncId) (fn : Func) (hf : Tryd.pinned.checked.prog.funcNamed "pub-pinstripe/laws.FnTextColor256" = some f) (hfn : Tryd.pinned.checked.prog.funcs[f]? = some fn) :
    false = Tryd.pinned.checked.prog.looks [] ∧ ∀ (j : Nat) t, fn.params[j]? = some t → Tryd.pinned.checked.prog.wantsStandIn t = false := by
  obtain rfl : f = 3 := Option.some.inj ((show Tryd.prog.funcNamed "pub-pinstripe/laws.FnTextColor256" = some 3 by kernel_rfl).symm.trans hf) |>.symm
  obtain rfl : fn = Tryd.f3 := (Option.some.inj (Tryd.func3.symm.trans hfn)).symm
  refine ⟨by kernel_rfl, fun j t ht => ?_⟩
  rw [Tryd.params3] at ht
  obtain rfl : t = 5 := by simpa using Array.mem_of_getElem? ht
  exact (show Tryd.prog.wantsStandIn 5 = false by kernel_rfl)

/-- ████ THE CARD ████ -/
theorem proved : Rows.FnTextColor256CardSaid :=
  Claim7.holds_tied_plain_at .later [] _ _ _ _ said (fun _ h => by cases h) (by kernel_rfl) (fun _ h => by cases h) fnTextColor256_row_tie rfl ⟨rfl, rfl⟩ (by kernel_rfl) rfl plain (by kernel_rfl)
#print axioms proved
end Go.Proofs.YtkfkhafmgndgaaaRRDoor.fnTextColor256
