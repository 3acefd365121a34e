/-
  Proved: impl.HiddenOf's contract, in the print's form. Conditions: at most 100 rows of at most 2147483647 cells, at most 100 columns hidden or not (else the function is told as none).
-/
import Derived.Test.YtapbnbinoakbhaaHidF
import Derived.Test.YtapbnbinoakbhaaGFnHiddenOfx0
namespace Go.Proofs.Ytapbnbinoakbhaa.GivenHide
open Go.RowKit Go.Proofs.YtapbnbinoakbhaaW.PrintWords Go.Proofs.Ytapbnbinoakbhaa.Common Go.Proofs.Ytapbnbinoakbhaa.ZReg Go.Proofs.Ytapbnbinoakbhaa.HidB Go.Proofs.Ytapbnbinoakbhaa.HidC Go.Proofs.Ytapbnbinoakbhaa.HidD
set_option linter.unusedVariables false
set_option linter.unusedSimpArgs false

def okh (l0 : List (List ByteArray)) (l1 : List Bool) : Bool := decide (l0.length ≤ 100 ∧ l1.length ≤ 100 ∧ ∀ r ∈ l0, r.length ≤ 2147483647)
def hdl (l1 : List Bool) (j : Nat) : Bool := hdn (fun j => l1.getD j false) l1.length j
def impl_HiddenOf.f (l0 : List (List ByteArray)) (l1 : List Bool) : Option (List (List ByteArray) × Int) := if okh l0 l1 = true then some (rowsTo (hdl l1) l0 l0.length, (numTo (hdl l1) l0 0 l0.length : Nat)) else none
theorem impl_HiddenOf.calls (A0 : Option Addr) (c0 : Nat) (l0 : List (List ByteArray)) (A1 : Option Addr) (c1 : Nat) (l1 : List Bool) (r1 : List (List ByteArray)) (r2 : Int) (w : World) (hr0 : Kd.C (Kd.slice 9 Kd.string) w A0 l0.length l0) (hc0 : l0.length ≤ c0) (hr1 : Kd.C Kd.bool w A1 l1.length l1) (hc1 : l1.length ≤ c1) (h : impl_HiddenOf.f l0 l1 = some (r1, r2)) :
    Calls Try.prog 16 #[.slice A0 l0.length c0, .slice A1 l1.length c1] w fun e w' => ∃ v0_ : Value, e = .returned (.tuple #[v0_, .int .i64 r2]) ∧ Kd.S (Kd.slice 9 Kd.string) 109 w' w.heap.size (fun _ => True) v0_ r1 ∧ Below w.heap.size w w' := by
  unfold impl_HiddenOf.f at h
  split at h
  · rename_i hok
    obtain ⟨h1, h2, h3⟩ := of_decide_eq_true hok
    have h := Option.some.inj h
    rw [Prod.mk.injEq] at h
    obtain ⟨rfl, rfl⟩ := h
    have hrl : ∀ i : Nat, (GEZ.rd_L1 l0 (i : Int)).length ≤ 2147483647 := fun i => by
      simp only [GEZ.rd_L1, Int.toNat_natCast, List.getD_eq_getElem?_getD]
      rcases Nat.lt_or_ge i l0.length with hi | hi
      · rw [List.getElem?_eq_getElem hi]
        exact h3 _ (List.getElem_mem hi)
      · rw [List.getElem?_eq_none hi]
        exact Nat.zero_le _
    have hlen : l1.length ≤ 100 := h2
    refine (HidA.impl_c A0 A1 l0.length c0 c1 l1 w hr1 hlen (fun v1 v2 w' => v2 = .int .i64 (numTo (hdl l1) l0 0 l0.length : Nat) ∧ Kd.S (Kd.slice 9 Kd.string) 109 w' w.heap.size (fun _ => True) v1 (rowsTo (hdl l1) l0 l0.length) ∧ Below w.heap.size w w') ?_).mono ?_
    · intro wr Ac cc g hb hAc hcf
      refine (HidF.hide_c A0 Ac c0 cc g l1.length l0 (fun j => l1.getD j false) wr (Kd.C_below hr0 hb) hc0 h1 hlen hrl hAc (fun j t u hj hu => hcf j t u hj ?_)).mono ?_
      · simp only [List.getD_eq_getElem?_getD, List.getElem?_eq_getElem hj, Option.getD_some] at hu
        exact hu
      · rintro e w' ⟨v, rfl, hS, hb2⟩
        exact ⟨v, _, rfl, rfl, Kd.S_lower hS hb.size, hb.trans (hb2.mono hb.size)⟩
    · rintro e w' ⟨v1, v2, rfl, rfl, hS, hb⟩
      exact ⟨v1, rfl, hS, hb⟩
  · cases h
end Go.Proofs.Ytapbnbinoakbhaa.GivenHide
