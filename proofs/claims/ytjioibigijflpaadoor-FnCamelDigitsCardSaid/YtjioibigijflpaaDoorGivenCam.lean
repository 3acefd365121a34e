/-
  Proved: impl.TwSplitCamelCase's contract, in the print's form. Conditions: lower letters and digits, at most 400 bytes (else the function is told as none); the listed tables read as laid.
-/
import Derived.Test.YtjioibigijflpaaDoorCamW
namespace Go.Proofs.YtjioibigijflpaaDoor.GivenCam
open Go.RowKit Go.Lib Go.Proofs.YtjioibigijflpaaDoorW.PrintWords Go.Proofs.YtjioibigijflpaaDoor.Common Go.Proofs.YtjioibigijflpaaDoor.CamP Go.Proofs.YtjioibigijflpaaDoor.CamS Go.Proofs.YtjioibigijflpaaDoor.CamW
set_option linter.unusedVariables false
set_option linter.unusedSimpArgs false

instance (c : UInt8) : Decidable (okd c) := by unfold okd; infer_instance
def okt (s : ByteArray) : Bool := decide (s.data.toList.length ≤ 400 ∧ ∀ c ∈ s.data.toList, okd c)
theorem tab_step {w w1 : World} (h : CamS.T w) (hb : Below w.heap.size w w1) : CamS.T w1 :=
  ⟨fun w2 h2 => h.1 w2 (hb.trans (h2.mono hb.size)), fun w2 h2 => h.2.1 w2 (hb.trans (h2.mono hb.size)), Go.Proofs.Utf8Tabs_below h.2.2 hb⟩
def impl_TwSplitCamelCase.f (a0 : ByteArray) : Option (List ByteArray) := if okt a0 = true then some ((grp a0.data.toList).1.map ofL) else none
set_option maxRecDepth 1000000 in
theorem impl_TwSplitCamelCase.calls (a0 : ByteArray) (r : List ByteArray) (w : World) (hT : CamS.T w) (h : impl_TwSplitCamelCase.f a0 = some r) :
    Calls Tryd.prog 9 #[.string a0] w fun e w' => ∃ v0_ : Value, e = .returned v0_ ∧ Kd.R Kd.string 9 w' w.heap.size (fun _ => True) v0_ r ∧ Below w.heap.size w w' := by
  unfold impl_TwSplitCamelCase.f at h
  split at h
  · rename_i hok
    obtain ⟨h1, h2⟩ := of_decide_eq_true hok
    have h := Option.some.inj h
    subst h
    have C := Aside0.mk (split_c a0.data.toList h1 h2 w hT)
    rw [ofL_of] at C
    clear hT h2 h1 hok
    go_enter Tryd.func9, Tryd.ntmps9
    go_wp2_with (go_at_call 12; refine C.out.mono ?_; rintro e w1 ⟨v, rfl, hr, hb⟩; have HB := Aside0.mk (And.intro hr hb); clear hr hb)
    go_ret
    exact ⟨_, rfl, HB.out⟩
  · cases h
end Go.Proofs.YtjioibigijflpaaDoor.GivenCam
