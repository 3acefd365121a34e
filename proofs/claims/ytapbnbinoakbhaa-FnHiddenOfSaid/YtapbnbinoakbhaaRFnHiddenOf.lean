/-
  Proved: Rows.FnHiddenOfSaid: the Go function pub-pinstripe/laws.FnHiddenOf returns true for every input that can be read as data, and leaves its arguments as they were. Conditions: those of the given statement alone.
-/
import Derived.Test.YtapbnbinoakbhaaRows
import Derived.Test.YtapbnbinoakbhaaRead
import Derived.Test.YtapbnbinoakbhaaPFnHiddenOf
import Derived.WalkKit
import Derived.ProofKit
import Derived.OpenShut
import Derived.ShutString
import Derived.ChangeOld
import Derived.Below
import Derived.Carry
namespace Go.Proofs.Ytapbnbinoakbhaa.fnHiddenOf
open Go.ChangeShapes Go.WideShapes Go.ChangeAt Go.RowKit Go.Proofs.YtapbnbinoakbhaaW.PrintWords Go.Proofs.Ytapbnbinoakbhaa.Read Go.Proofs.Ytapbnbinoakbhaa.GFnHiddenOf Go.Proofs.Ytapbnbinoakbhaa.GivenHide
open Go.ChangeMaps (open_string shut_string)
set_option linter.unusedVariables false
theorem own : ownKnob Try.prog.godebug = none := by kernel_rfl
theorem laidOut : laidOutB Try.prog = true := by kernel_rfl
theorem walk (w : World) (A0 : Option Addr) (c0 : Nat) (l0 : List (List ByteArray)) (hc0 : l0.length ≤ c0) (hr0 : Kd.C (Kd.slice 9 Kd.string) w A0 l0.length l0) (hg0 : (Goods ((Goods (fun s => s.size ≤ maxLen)))) l0) (A1 : Option Addr) (c1 : Nat) (l1 : List Bool) (hc1 : l1.length ≤ c1) (hr1 : Kd.C Kd.bool w A1 l1.length l1) (hg1 : (Goods (fun _ => True)) l1) :
    Calls Try.prog 6 #[.slice A0 l0.length c0, .slice A1 l1.length c1] w fun e w' => e = .returned (.bool true) ∧ Below w.heap.size w w' := by
  obtain ⟨k, hk⟩ := PureFnHiddenOf.pure l0 hg0 l1 hg1
  exact (laws_FnHiddenOf.calls k A0 c0 l0 A1 c1 l1 true w hr0 hc0 hr1 hc1 hk).mono fun e w' ⟨he, hb⟩ => ⟨he, hb⟩
set_option maxRecDepth 100000 in
theorem lifted (os : Os) (started : os.Started) (H : Type) (enc : TypeId × Value → H) :
    ReturnsInHanded {} Try.checked os 6 .any (Rows.fnHiddenOfSpec.pre6 enc Try.prog Try.f6 Rows.fnHiddenOfRow.domain false) (Rows.fnHiddenOfSpec.post enc Try.prog Try.f6 false true false false) := by
  refine returnsInHanded_of_change (C := Try.checked) own started (by kernel_rfl) Try.func6
    (ChangeSpec.witness6 (enc := enc) (C := Try.checked) false ⟨#[], #[.slice none 0 0, .slice none 0 0], []⟩ 8 (by kernel_rfl) (by kernel_rfl) (by kernel_rfl) (by kernel_rfl)) ?_
  intro W base args ds gs before hval0 hW hcnd _
  have hval : ∀ (j : Nat) t v, Try.f6.params[j]? = some t → args[j]? = some v → Value.okWide Try.prog W .any base t v := hval0
  have hW' := hW
  obtain ⟨p, q, hA0, hV, rfl, hfz, hnd⟩ := hW
  have hA : DataW.TrodAll enc Try.prog W 0 (fun _ => true) true Try.f6.params.toList args.toList ds p := hA0
  rw [Try.params6] at hA hval
  obtain ⟨v0, vs0, d0, ds0, p0, q0, hargs, rfl, rfl, h0, r0⟩ := trodAll_cons hA
  obtain ⟨v1, vs1, d1, ds1, p1, q1, rfl, rfl, rfl, h1, r1⟩ := trodAll_cons r0
  obtain ⟨rfl, rfl, rfl⟩ := trodAll_nil r1
  obtain rfl : args = #[v0, v1] := by cases args; simp_all
  obtain ⟨rfl, rfl⟩ := trodVars_none hV
  obtain ⟨A0, len0, c0, rfl⟩ := okWide_slice Try.underlying43 (hval 0 43 v0 rfl rfl)
  have k0 := h0
  have lt0 : ∀ x ∈ p0, x.block < W.heap.size := by obtain ⟨m, hm⟩ := k0; exact DataW.trod_lt m _ _ _ hm
  obtain ⟨l0, rfl, hc0, hr0, hg0⟩ := open_arg (opens_slice Try.underlying43 (by kernel_rfl) (opens_slice Try.underlying109 (by kernel_rfl) (opens_string Try.underlying9))) h0
  obtain ⟨A1, len1, c1, rfl⟩ := okWide_slice Try.underlying44 (hval 1 44 v1 rfl rfl)
  have k1 := h1
  have lt1 : ∀ x ∈ p1, x.block < W.heap.size := by obtain ⟨m, hm⟩ := k1; exact DataW.trod_lt m _ _ _ hm
  obtain ⟨l1, rfl, hc1, hr1, hg1⟩ := open_arg (opens_slice Try.underlying44 (by kernel_rfl) (opens_bool Try.underlying4)) h1
  clear hA0 hval0
  refine (walk W A0 c0 l0 hc0 hr0 hg0 A1 c1 l1 hc1 hr1 hg1).mono fun e W' ⟨he, bel⟩ => ?_
  subst he
  exact ⟨_, rfl, _, _, _, [], _, [], hW', trodAll_mk1 (shut_bool Try.underlying4 _), (trodAll_cons_mk (Below.trod laidOut (by kernel_rfl) (of_decide_eq_true (by kernel_rfl)) k0 bel lt0) (trodAll_cons_mk (Below.trod laidOut (by kernel_rfl) (of_decide_eq_true (by kernel_rfl)) k1 bel lt1) trodAll_mk0)), rfl, bel.frame _, fun h => by cases h⟩
theorem over : Rows.fnHiddenOfRow.holds Try.pinned (OpenSpec.ofChange Rows.fnHiddenOfSpec) :=
  OpenClaim.holds_of_wide 6 Try.f6 rfl rfl rfl rfl rfl rfl rfl ⟨rfl, rfl, rfl, rfl, rfl⟩ rfl rfl rfl rfl rfl (by kernel_rfl) Try.func6 (by kernel_rfl)
    (of_decide_eq_true (by kernel_rfl)) (by unfold Func.isWrapper; first | (rw [if_pos (by decide +kernel)]; kernel_rfl) | (rw [if_neg (by decide +kernel)]; exact ⟨rfl, rfl⟩))
    (fun os started H enc _ => lifted os started H enc)
theorem proved : Rows.FnHiddenOfSaid := over
#print axioms proved
end Go.Proofs.Ytapbnbinoakbhaa.fnHiddenOf
