/-
  Proved: for every int n the text that impl.TwState(n) tells is 'on' for 1, 'off' for -1 and 'undefined' for every other n. Conditions: none.
-/
import Derived.Test.YtjoagjkmghmnnaaRows
import Derived.WalkKit
import Derived.Test.YtjoagjkmghmnnaaState0
import Derived.ProofKit
import Derived.OpenShut
namespace Go.Proofs.Ytjoagjkmghmnnaa.fnStateText
open Go.ChangeShapes Go.WideShapes Go.ChangeAt Go.RowKit
set_option linter.unusedVariables false      -- a walk need not use every 'w<i>' (that an integer argument fits its kind)

theorem own : ownKnob Try.prog.godebug = none := by kernel_rfl

/-! ### STEP 1: THE WALK: the Go text returns true. 'Grown w w'': the world has at most new blocks (Derived/RowKit3.lean). Part the cases AHEAD of 'go_enter' where a test parts the walk; take each callee by a contract of your own. -/
set_option maxRecDepth 100000 in
set_option maxHeartbeats 400000 in
theorem walk (a0 : Int) (w0 : (Lit.int .i64 a0).wf = true) (w : World) :
    Calls Try.prog 4 #[.int .i64 a0] w fun e w' => e = .returned (.bool true) ∧ Grown w w' := by
  clear w0
  by_cases h1 : a0 = 1
  · subst h1
    have hf : ∀ w : World, (Instr.field 25 (.agg #[.bool true, .bool false, .bool false, .string ⟨#[111, 110]⟩, .int .i64 (-1), .bool true, .bool true]) 3).run Try.prog w = .ok (.string ⟨#[111, 110]⟩) w := fun _ => by kernel_rfl
    go_enter Try.func4, Try.ntmps4
    go_wp2_with (go_at_call 17; refine (State0.state_on _).mono ?_; rintro e w1 ⟨rfl, hg⟩)
    go_ret
    exact ⟨rfl, hg⟩
  · by_cases h2 : a0 = -1
    · subst h2
      have hf : ∀ w : World, (Instr.field 25 (.agg #[.bool false, .bool true, .bool false, .string ⟨#[111, 102, 102]⟩, .int .i64 1, .bool false, .bool false]) 3).run Try.prog w = .ok (.string ⟨#[111, 102, 102]⟩) w := fun _ => by kernel_rfl
      go_enter Try.func4, Try.ntmps4
      go_wp2_with (go_at_call 17; refine (State0.state_off _).mono ?_; rintro e w1 ⟨rfl, hg⟩)
      go_ret
      exact ⟨rfl, hg⟩
    · have e1 : (a0 == 1) = false := beq_eq_false_iff_ne.2 h1
      have e2 : (a0 == -1) = false := beq_eq_false_iff_ne.2 h2
      clear h1 h2
      have hf : ∀ w : World, (Instr.field 25 (.agg #[.bool false, .bool false, .bool (a0 == 0), .string ⟨#[117, 110, 100, 101, 102, 105, 110, 101, 100]⟩, .int .i64 (-1), .bool false, .bool false]) 3).run Try.prog w = .ok (.string ⟨#[117, 110, 100, 101, 102, 105, 110, 101, 100]⟩) w := fun _ => by kernel_rfl
      go_enter Try.func4, Try.ntmps4
      go_wp2_with (go_at_call 17; refine (State0.state_un a0 e1 e2 _).mono ?_; rintro e w1 ⟨rfl, hg⟩)
      go_ret
      exact ⟨rfl, hg⟩

/-! ### THE ROW's STEP: WRITTEN OUT: LEAVE IT -/
set_option maxRecDepth 100000 in
theorem lifted (os : Os) (started : os.Started) (H : Type) (enc : TypeId × Value → H) :
    ReturnsInHanded {} Try.checked os 4 .any (Rows.fnStateTextSpec.pre6 enc Try.prog Try.f4 Rows.fnStateTextRow.domain false) (Rows.fnStateTextSpec.post enc Try.prog Try.f4 false true false false) := by
  refine returnsInHanded_of_change (C := Try.checked) own started (by kernel_rfl) Try.func4
    (ChangeSpec.witness6 (enc := enc) (C := Try.checked) false ⟨#[], #[.int .i64 0], []⟩ 8 (by kernel_rfl) (by kernel_rfl) (by kernel_rfl) (by kernel_rfl)) ?_
  intro W base args ds gs before hval0 hW hcnd _
  have hval : ∀ (j : Nat) t v, Try.f4.params[j]? = some t → args[j]? = some v → Value.okWide Try.prog W .any base t v := hval0
  have hW' := hW
  obtain ⟨p, q, hA0, hV, rfl, hfz, hnd⟩ := hW
  have hA : DataW.TrodAll enc Try.prog W 0 (fun _ => true) true Try.f4.params.toList args.toList ds p := hA0
  rw [Try.params4] at hA hval
  obtain ⟨v0, vs0, d0, ds0, p0, q0, hargs, rfl, rfl, h0, r0⟩ := trodAll_cons hA
  obtain ⟨rfl, rfl, rfl⟩ := trodAll_nil r0
  obtain rfl : args = #[v0] := by cases args; simp_all
  obtain ⟨rfl, rfl⟩ := trodVars_none hV
  obtain ⟨a0, rfl, rfl, rfl, w0⟩ := open_int Try.underlying3 (hval 0 3 v0 rfl rfl) h0
  clear hA0 hval0
  simp only [List.append_nil] at hW'
  refine (walk a0 w0 W).mono fun e W' ⟨he, hg⟩ => ?_
  subst he
  exact ⟨_, rfl, post_of_same (pa := []) (pv := []) hW' (fun _ _ _ => (trodAll_cons_mk (shut_bool Try.underlying4 _) trodAll_mk0)) (fun sp _ => (trodAll_cons_mk (shut_int Try.underlying3 w0) trodAll_mk0)) (fun _ _ => rfl) rfl
    (hg.frame _) hg.2.1 (ok_one (by kernel_rfl) rfl (okWide_bool_mk Try.underlying4 _))⟩

theorem over : Rows.fnStateTextRow.holds Try.pinned (OpenSpec.ofChange Rows.fnStateTextSpec) :=
  OpenClaim.holds_of_wide 4 Try.f4 rfl rfl rfl rfl rfl rfl rfl ⟨rfl, rfl, rfl, rfl, rfl⟩ rfl rfl rfl rfl rfl (by kernel_rfl) Try.func4 (by kernel_rfl)
    (of_decide_eq_true (by kernel_rfl)) (by unfold Func.isWrapper; first | (rw [if_pos (by decide +kernel)]; kernel_rfl) | (rw [if_neg (by decide +kernel)]; exact ⟨rfl, rfl⟩))
    (fun os started H enc _ => lifted os started H enc)

/-- ████ THE STATEMENT ████ -/
theorem proved : Rows.FnStateTextSaid :=
  over
#print axioms proved
end Go.Proofs.Ytjoagjkmghmnnaa.fnStateText
