/-
  Proved: Rows.FnTextEscapeStripUptoCardSaid: the Go function pub-pinstripe/laws.FnTextEscapeStrip returns true for every input that can be read as data, and leaves its arguments as they were. Conditions: those of the given statement alone.
-/
import Derived.Test.YtkfkhafmgndgaaaRRDoorRows
import Derived.Test.YtkfkhafmgndgaaaRRDoorCards
import Derived.Test.YtkfkhafmgndgaaaRRDoorTie
import Derived.Test.YtkfkhafmgndgaaaRRDoorLaid
import Derived.Test.YtkfkhafmgndgaaaRRDoorRead
import Derived.Test.YtkfkhafmgndgaaaRRDoorReadB
import Derived.Test.YtkfkhafmgndgaaaRRDoorPFnTextEscapeStrip
import Derived.WalkKit
import Derived.ProofKit
import Derived.OpenShut
import Derived.ShutString
import Derived.ChangeOld
import Derived.Below
import Derived.Carry
namespace Go.Proofs.YtkfkhafmgndgaaaRRDoor.fnTextEscapeStrip
open Go.ChangeShapes Go.WideShapes Go.ChangeAt Go.RowKit Go.Proofs.YtkfkhafmgndgaaaRRDoorW.PrintWords Go.Proofs.YtkfkhafmgndgaaaRRDoor.Read Go.Proofs.YtkfkhafmgndgaaaRRDoor.GT Go.Proofs.YtkfkhafmgndgaaaRRDoor.Given Go.Proofs.YtkfkhafmgndgaaaRRDoor.Given2
open Go.ChangeMaps (open_string shut_string)
set_option linter.unusedVariables false
set_option linter.unusedSimpArgs false
theorem own : ownKnob Tryd.prog.godebug = none := by kernel_rfl
theorem laidOut : laidOutB Tryd.prog = true := by kernel_rfl
theorem walk (w : World) (hT : Given.Tab w) (A0 : Option Addr) (c0 : Nat) (l0 : List (S46)) (hc0 : l0.length ≤ c0) (hr0 : Kd.C k46 w A0 l0.length l0) (hg0 : ∀ p ∈ l0, ∀ c ∈ p.f0, Color.I64 c) (hm0 : PureT.ms l0 ≤ 1048576) (a1 : Int) (w1 : (Lit.int .i64 a1).wf = true) :
    Calls Tryd.prog 5 #[.slice A0 l0.length c0, .int .i64 a1] w fun e w' => e = .returned (.bool true) ∧ Below w.heap.size w w' := by
  obtain ⟨k, hk⟩ := PureFnTextEscapeStrip.pure l0 a1 hm0 hg0
  exact (laws_FnTextEscapeStrip.calls k A0 c0 l0 a1 true w hT hr0 hc0 hk).mono fun e w' ⟨he, hb⟩ => ⟨he, hb⟩
set_option maxRecDepth 100000 in
theorem contract (H : Type) (enc : TypeId × Value → H) (W : World) (base : Nat) (args : Array Value) (ds gs : List (DataW H)) (before : List MemPlace)
    (hval : ∀ (j : Nat) t v, Tryd.f5.params[j]? = some t → args[j]? = some v → Value.okWide Tryd.prog W .any base t v)
    (hW : DataW.Whole enc Tryd.prog Tryd.f5.params.toList Rows.fnTextEscapeStripSpec.vars false W args.toList ds gs before) (hL : laidMetH Tryd.prog Rows.fnTextEscapeStripUptoRow.laid W) (hk : Rows.uptoSmall H (ds ++ gs) = true) :
    Calls Tryd.prog 5 args W fun e W' => ∃ v, e = .returned v ∧ Rows.fnTextEscapeStripSpec.post enc Tryd.prog Tryd.f5 false true false false W args v W' := by
  have hW' := hW
  obtain ⟨p, q, hA0, hV, rfl, hfz, hnd⟩ := hW
  have hA : DataW.TrodAll enc Tryd.prog W 0 (fun _ => true) true Tryd.f5.params.toList args.toList ds p := hA0
  rw [Tryd.params5] at hA hval
  obtain ⟨v0, vs0, d0, ds0, p0, q0, hargs, rfl, rfl, h0, r0⟩ := trodAll_cons hA
  obtain ⟨v1, vs1, d1, ds1, p1, q1, rfl, rfl, rfl, h1, r1⟩ := trodAll_cons r0
  obtain ⟨rfl, rfl, rfl⟩ := trodAll_nil r1
  obtain rfl : args = #[v0, v1] := by cases args; simp_all
  obtain ⟨rfl, rfl⟩ := trodVars_none hV
  obtain ⟨A0, len0, c0, rfl⟩ := okWide_slice Tryd.underlying27 (hval 0 27 v0 rfl rfl)
  have k0 := h0
  have lt0 : ∀ x ∈ p0, x.block < W.heap.size := by obtain ⟨m, hm⟩ := k0; exact DataW.trod_lt m _ _ _ hm
  obtain ⟨l0, rfl, hc0, hr0, hg0, hm0⟩ := ReadB.open_pieces h0
  have hb := of_decide_eq_true hk
  simp only [List.cons_append, List.nil_append, Rows.uptoBulkAll, Rows.uptoBulk] at hb
  obtain ⟨a1, rfl, rfl, rfl, w1⟩ := open_int Tryd.underlying3 (hval 1 3 v1 rfl rfl) h1
  clear hA0
  refine (walk W (Laid.table hL) A0 c0 l0 hc0 hr0 hg0 (by omega) a1 w1).mono fun e W' ⟨he, bel⟩ => ?_
  subst he
  exact ⟨_, rfl, _, _, _, [], _, [], hW', trodAll_mk1 (shut_bool Tryd.underlying4 _), (trodAll_cons_mk (Below.trod laidOut (by kernel_rfl) (of_decide_eq_true (by kernel_rfl)) k0 bel lt0) (trodAll_cons_mk (shut_int Tryd.underlying3 w1) trodAll_mk0)), rfl, bel.frame _, fun h => by cases h⟩
theorem laid_met (os : Os) : laidMet Tryd.prog Rows.fnTextEscapeStripUptoRow.laid ((Laid.laidWorld os).forCall (fun _ _ => 0) ⟨#[], #[.slice none 0 0, .int .i64 0], []⟩).memory :=
  laidMet_of_run' 8 (by kernel_rfl) (by kernel_rfl)
theorem reads (os : Os) {H : Type} (enc : TypeId × Value → H) : ∃ places, DataW.whole enc Tryd.prog ((Laid.laidWorld os).forCall (fun _ _ => 0) ⟨#[], #[.slice none 0 0, .int .i64 0], []⟩).memory Tryd.f5.params.toList Rows.fnTextEscapeStripSpec.vars false (#[.slice none 0 0, .int .i64 0] : Array Value).toList 8 = some ([.nil, .lit (.int .i64 0)], [], places) :=
  ⟨[], by kernel_rfl⟩
set_option maxRecDepth 100000 in
theorem lifted (os : Os) (started : os.Started) (H : Type) (enc : TypeId × Value → H) (F : Stop.Interp) :
    ReturnsInHanded {} Tryd.checked os 5 .any ((Rows.OpenSpec.upto Rows.fnTextEscapeStripSpec).preRow enc Tryd.prog Tryd.f5 Rows.fnTextEscapeStripUptoRow.domain false Rows.fnTextEscapeStripUptoRow.laid) (((Rows.OpenSpec.upto Rows.fnTextEscapeStripSpec).at F).post enc Tryd.prog Tryd.f5 false true false false) := by
  obtain ⟨places, hx⟩ := reads os enc
  refine returnsInHanded_of_row (C := Tryd.checked) (s := Rows.OpenSpec.upto Rows.fnTextEscapeStripSpec) own started (by kernel_rfl) Tryd.func5
    (witness_row_at (enc := enc) (C := Tryd.checked) false (Laid.laidWorld os) #[.slice none 0 0, .int .i64 0] rfl (by kernel_rfl) (by kernel_rfl) (by kernel_rfl)
      (OpenSpec.preRow_of_cond 8 hx (by kernel_rfl) (fun k hk => by cases hk; kernel_rfl) (by kernel_rfl) (laid_met os))) ?_
  intro W base args ds gs before hval hW _ hcond _ hL _ _
  exact contract H enc W base args ds gs before hval hW hL (hcond _ rfl)
theorem said : Rows.FnTextEscapeStripUptoSaid :=
  OpenClaim.holds_of_cond 5 Tryd.f5 rfl rfl rfl rfl rfl rfl rfl ⟨rfl, rfl, rfl, rfl, rfl⟩ rfl rfl rfl rfl rfl (by kernel_rfl) Tryd.func5 (by kernel_rfl)
    (of_decide_eq_true (by kernel_rfl)) (by unfold Func.isWrapper; first | (rw [if_pos (by decide +kernel)]; kernel_rfl) | (rw [if_neg (by decide +kernel)]; exact ⟨rfl, rfl⟩))
    (fun os started H enc _ F => by rw [OpenClaim.pre_eq_preRow]; exact lifted os started H enc F)
theorem noStandIn : Tryd.f5.params.toList.all (fun t => !Tryd.prog.wantsStandIn t) = true := by kernel_rfl
theorem plain (f : FuncId) (fn : Func) (hf : Tryd.pinned.checked.prog.funcNamed "pub-pinstripe/laws.FnTextEscapeStrip" = some f) (hfn : Tryd.pinned.checked.prog.funcs[f]? = some fn) :
    false = Tryd.pinned.checked.prog.looks [] ∧ ∀ (j : Nat) t, fn.params[j]? = some t → Tryd.pinned.checked.prog.wantsStandIn t = false := by
  obtain rfl : f = 5 := Option.some.inj ((show Tryd.prog.funcNamed "pub-pinstripe/laws.FnTextEscapeStrip" = some 5 by kernel_rfl).symm.trans hf) |>.symm
  obtain rfl : fn = Tryd.f5 := (Option.some.inj (Tryd.func5.symm.trans hfn)).symm
  refine ⟨by kernel_rfl, fun j t ht => ?_⟩
  have h := List.all_eq_true.1 noStandIn t (Array.mem_toList_iff.2 (Array.mem_of_getElem? ht))
  have h2 : Tryd.prog.wantsStandIn t = false := by simpa using h
  exact h2
theorem proved : Rows.FnTextEscapeStripUptoCardSaid :=
  Claim7.holds_tied_plain_at .later [] _ _ _ _ said (fun _ h => by cases h) (by kernel_rfl) (fun _ h => by cases h) fnTextEscapeStripUpto_row_tie rfl ⟨rfl, rfl⟩ (by kernel_rfl) rfl plain (by kernel_rfl)
#print axioms proved
end Go.Proofs.YtkfkhafmgndgaaaRRDoor.fnTextEscapeStrip
