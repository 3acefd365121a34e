/-
  Proved: Rows.FnMatchPiecesCardSaid: the Go function pub-pinstripe/laws.FnMatchPieces returns true for every input that can be read as data, and leaves its arguments as they were. Conditions: those of the given statement alone.
-/
import Derived.Test.YtjioibigijflpaaDoorRows
import Derived.Test.YtjioibigijflpaaDoorCards
import Derived.Test.YtjioibigijflpaaDoorTie
import Derived.Lay
import Derived.LaidMore
import Derived.SevenTiedAt
import Derived.WalkKit
import Derived.ProofKit
import Derived.Deep.DeepHandedRow
import Derived.Stop.LaidErr
import Derived.Test.YtjioibigijflpaaDoorRead
import Derived.Test.YtjioibigijflpaaDoorMatL
import Derived.WalkKit
import Derived.ProofKit
import Derived.OpenShut
import Derived.ShutString
import Derived.ChangeOld
import Derived.Below
import Derived.Carry
namespace Go.Proofs.YtjioibigijflpaaDoor.fnMatchPieces
open Go.ChangeShapes Go.WideShapes Go.ChangeAt Go.RowKit Go.Proofs.YtjioibigijflpaaDoorW.PrintWords Go.Proofs.YtjioibigijflpaaDoor.Read Go.Proofs.YtjioibigijflpaaDoor
open Go.ChangeMaps (open_string shut_string)
set_option linter.unusedVariables false
theorem own : ownKnob Tryd.prog.godebug = none := by kernel_rfl
theorem laidOut : laidOutB Tryd.prog = true := by kernel_rfl
theorem walk (w : World) (a0 : ByteArray) (w0 : a0.size ≤ maxLen) (a1 : ByteArray) (w1 : a1.size ≤ maxLen) (a2 : ByteArray) (w2 : a2.size ≤ maxLen) (a3 : Bool) :
    Calls Tryd.prog 3 #[.string a0, .string a1, .string a2, .bool a3] w fun e w' => e = .returned (.bool true) ∧ Below w.heap.size w w' := by
  exact MatL.walk a0 a1 a2 a3 w0 w1 w2 w
theorem witness_row_shaped {H : Type} {enc : TypeId × Value → H} {C : Checked} {os : Os} {f : FuncId} {fn : Func} {s : OpenSpec} {conds : List PathCond} {apart : Bool} {laid : List (String × DataW Unit)} (modest : Bool) (w0 : World) (args : Array Value) (hos : w0.os = os)
    (hs : (w0.forCall (fun _ _ => 0) ⟨#[], args, []⟩).Shaped C.prog)
    (hok : Input.okWideB C.prog (w0.forCall (fun _ _ => 0) ⟨#[], args, []⟩) f ⟨#[], args, []⟩ = true)
    (hrow : s.preRow enc C.prog fn conds apart laid (w0.forCall (fun _ _ => 0) ⟨#[], args, []⟩).memory args) :
    ∃ (w : World) (tape : Tape) (i : Input), w.os = os ∧ (w.forCall tape i).Shaped C.prog ∧ i.vars = [] ∧ Input.okWide C.prog (w.forCall tape i) .any w.heap.size f i ∧
      s.preRow enc C.prog fn conds apart laid (w.forCall tape i).memory i.args ∧ ({ modest := modest } : Assume).holds C.prog (lone (Frame.enter C.prog f i.args .normal) [] (w.forCall tape i)) :=
  ⟨w0, fun _ _ => 0, ⟨#[], args, []⟩, hos, hs, (Input.okWide_of_okWideB (base := 0) hok).1, (Input.okWide_of_okWideB hok).2, hrow, by
    simp only [Assume.holds]
    exact ⟨by simp, by simp, fun _ => Modest.zero, by simp, by simp⟩⟩
set_option maxRecDepth 100000 in
theorem contract (H : Type) (enc : TypeId × Value → H) (W : World) (base : Nat) (args : Array Value) (ds gs : List (DataW H)) (before : List MemPlace)
    (hval : ∀ (j : Nat) t v, Tryd.f3.params[j]? = some t → args[j]? = some v → Value.okWide Tryd.prog W .any base t v)
    (hW : DataW.Whole enc Tryd.prog Tryd.f3.params.toList Rows.fnMatchPiecesSpec.vars false W args.toList ds gs before) (hL : laidMetH Tryd.prog Rows.fnMatchPiecesRow.laid W) :
    Calls Tryd.prog 3 args W fun e W' => ∃ v, e = .returned v ∧ Rows.fnMatchPiecesSpec.post enc Tryd.prog Tryd.f3 false true false false W args v W' := by
  have hW' := hW
  obtain ⟨p, q, hA0, hV, rfl, hfz, hnd⟩ := hW
  have hA : DataW.TrodAll enc Tryd.prog W 0 (fun _ => true) true Tryd.f3.params.toList args.toList ds p := hA0
  rw [Tryd.params3] at hA hval
  obtain ⟨v0, vs0, d0, ds0, p0, q0, hargs, rfl, rfl, h0, r0⟩ := trodAll_cons hA
  obtain ⟨v1, vs1, d1, ds1, p1, q1, rfl, rfl, rfl, h1, r1⟩ := trodAll_cons r0
  obtain ⟨v2, vs2, d2, ds2, p2, q2, rfl, rfl, rfl, h2, r2⟩ := trodAll_cons r1
  obtain ⟨v3, vs3, d3, ds3, p3, q3, rfl, rfl, rfl, h3, r3⟩ := trodAll_cons r2
  obtain ⟨rfl, rfl, rfl⟩ := trodAll_nil r3
  obtain rfl : args = #[v0, v1, v2, v3] := by cases args; simp_all
  obtain ⟨rfl, rfl⟩ := trodVars_none hV
  obtain ⟨a0, rfl, rfl, rfl, w0⟩ := open_string Tryd.underlying9 (hval 0 9 v0 rfl rfl) h0
  obtain ⟨a1, rfl, rfl, rfl, w1⟩ := open_string Tryd.underlying9 (hval 1 9 v1 rfl rfl) h1
  obtain ⟨a2, rfl, rfl, rfl, w2⟩ := open_string Tryd.underlying9 (hval 2 9 v2 rfl rfl) h2
  obtain ⟨a3, rfl, rfl, rfl⟩ := open_bool Tryd.underlying4 (hval 3 4 v3 rfl rfl) h3
  clear hA0
  refine (walk W a0 w0 a1 w1 a2 w2 a3).mono fun e W' ⟨he, bel⟩ => ?_
  subst he
  exact ⟨_, rfl, _, _, _, [], _, [], hW', trodAll_mk1 (shut_bool Tryd.underlying4 _), (trodAll_cons_mk (shut_string Tryd.underlying9 w0) (trodAll_cons_mk (shut_string Tryd.underlying9 w1) (trodAll_cons_mk (shut_string Tryd.underlying9 w2) (trodAll_cons_mk (shut_bool Tryd.underlying4 _) trodAll_mk0)))), rfl, bel.frame _, fun h => by cases h⟩
theorem laid_met (os : Os) : laidMet Tryd.prog Rows.fnMatchPiecesRow.laid ((World.laidAll Tryd.prog os Rows.fnMatchPiecesRow.laid).forCall (fun _ _ => 0) ⟨#[], #[.string ByteArray.empty, .string ByteArray.empty, .string ByteArray.empty, .bool false], []⟩).memory :=
  laidMet_laidAll _ (by kernel_rfl) (by kernel_rfl)
theorem reads (os : Os) {H : Type} (enc : TypeId × Value → H) : ∃ places, DataW.whole enc Tryd.prog ((World.laidAll Tryd.prog os Rows.fnMatchPiecesRow.laid).forCall (fun _ _ => 0) ⟨#[], #[.string ByteArray.empty, .string ByteArray.empty, .string ByteArray.empty, .bool false], []⟩).memory Tryd.f3.params.toList Rows.fnMatchPiecesSpec.vars false (#[.string ByteArray.empty, .string ByteArray.empty, .string ByteArray.empty, .bool false] : Array Value).toList 8 = some ([.lit (.string []), .lit (.string []), .lit (.string []), .lit (.bool false)], [], places) :=
  ⟨[], by kernel_rfl⟩
set_option maxRecDepth 100000 in
theorem lifted (os : Os) (started : os.Started) (H : Type) (enc : TypeId × Value → H) (F : Stop.Interp) :
    ReturnsInHanded {} Tryd.checked os 3 .any ((OpenSpec.ofChange Rows.fnMatchPiecesSpec).preRow enc Tryd.prog Tryd.f3 Rows.fnMatchPiecesRow.domain false Rows.fnMatchPiecesRow.laid) (((OpenSpec.ofChange Rows.fnMatchPiecesSpec).at F).post enc Tryd.prog Tryd.f3 false true false false) := by
  obtain ⟨places, hx⟩ := reads os enc
  refine returnsInHanded_of_row (C := Tryd.checked) (s := OpenSpec.ofChange Rows.fnMatchPiecesSpec) own started (by kernel_rfl) Tryd.func3
    (witness_row_shaped (enc := enc) (C := Tryd.checked) false (World.laidAll Tryd.prog os Rows.fnMatchPiecesRow.laid) #[.string ByteArray.empty, .string ByteArray.empty, .string ByteArray.empty, .bool false] (World.laidAll_os _ _ _) (World.shaped_of_ZipB (by kernel_rfl) (by kernel_rfl)) (by kernel_rfl)
      (OpenSpec.preRow_of_cond 8 hx (by kernel_rfl) (fun k hk => by cases hk) (by kernel_rfl) (laid_met os))) ?_
  intro W base args ds gs before hval hW _ _ _ hL _ _
  exact contract H enc W base args ds gs before hval hW hL
theorem said : Rows.FnMatchPiecesSaid :=
  OpenClaim.holds_of_cond 3 Tryd.f3 rfl rfl rfl rfl rfl rfl rfl ⟨rfl, rfl, rfl, rfl, rfl⟩ rfl rfl rfl rfl rfl (by kernel_rfl) Tryd.func3 (by kernel_rfl)
    (of_decide_eq_true (by kernel_rfl)) (by unfold Func.isWrapper; first | (rw [if_pos (by decide +kernel)]; kernel_rfl) | (rw [if_neg (by decide +kernel)]; exact ⟨rfl, rfl⟩))
    (fun os started H enc _ F => by rw [OpenClaim.pre_eq_preRow]; exact lifted os started H enc F)
theorem noStandIn : Tryd.f3.params.toList.all (fun t => !Tryd.prog.wantsStandIn t) = true := by kernel_rfl
theorem plain (f : FuncId) (fn : Func) (hf : Tryd.pinned.checked.prog.funcNamed "pub-pinstripe/laws.FnMatchPieces" = some f) (hfn : Tryd.pinned.checked.prog.funcs[f]? = some fn) :
    true = Tryd.pinned.checked.prog.looks [] ∧ ∀ (j : Nat) t, fn.params[j]? = some t → Tryd.pinned.checked.prog.wantsStandIn t = false := by
  obtain rfl : f = 3 := Option.some.inj ((show Tryd.prog.funcNamed "pub-pinstripe/laws.FnMatchPieces" = some 3 by kernel_rfl).symm.trans hf) |>.symm
  obtain rfl : fn = Tryd.f3 := (Option.some.inj (Tryd.func3.symm.trans hfn)).symm
  refine ⟨by kernel_rfl, fun j t ht => ?_⟩
  have h := List.all_eq_true.1 noStandIn t (Array.mem_toList_iff.2 (Array.mem_of_getElem? ht))
  have h2 : Tryd.prog.wantsStandIn t = false := by simpa using h
  exact h2
theorem proved : Rows.FnMatchPiecesCardSaid :=
  Claim7.holds_tied_plain_at .later [] _ _ _ _ said (fun _ h => by cases h) (by kernel_rfl) (fun _ h => by cases h) fnMatchPieces_row_tie rfl ⟨rfl, rfl⟩ (by kernel_rfl) rfl plain (by kernel_rfl)
#print axioms proved
end Go.Proofs.YtjioibigijflpaaDoor.fnMatchPieces
