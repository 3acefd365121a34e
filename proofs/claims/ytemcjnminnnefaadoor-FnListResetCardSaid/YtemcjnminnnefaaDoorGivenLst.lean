/-
  Proved: contracts of impl.ListPlain, impl.ListLength and spec.TxSimple in the print's form. Conditions: as the functions say.
-/
import Derived.Test.YtemcjnminnnefaaDoorLstJ
import Derived.Test.YtemcjnminnnefaaDoorLstK
import Derived.Test.YtemcjnminnnefaaDoorLstN
namespace Go.Proofs.YtemcjnminnnefaaDoor.LstM
open Go.RowKit Go.Proofs.YtemcjnminnnefaaDoorW.PrintWords Go.Proofs.YtemcjnminnnefaaDoor.Common Go.Proofs.YtemcjnminnnefaaDoor.LstT Go.Proofs.YtemcjnminnnefaaDoor.LstA Go.Proofs.YtemcjnminnnefaaDoor.LstB Go.Proofs.YtemcjnminnnefaaDoor.LstC Go.Proofs.YtemcjnminnnefaaDoor.LstD Go.Proofs.YtemcjnminnnefaaDoor.LstE Go.Proofs.YtemcjnminnnefaaDoor.LstF Go.Proofs.YtemcjnminnnefaaDoor.LstI Go.Proofs.YtemcjnminnnefaaDoor.LstJ Go.Proofs.YtemcjnminnnefaaDoor.LstK Go.Proofs.YtemcjnminnnefaaDoor.GFnListReset
set_option linter.unusedVariables false
set_option linter.unusedSimpArgs false
set_option maxRecDepth 1000000

def vsD : ByteArray := ofL (Lib.repeatL [32] (Lib.runeCount dflt.ve))
theorem rc2 : Lib.runeCount dflt.ve ≤ 2 := Lib.runeCount_le _
theorem short_dflt : shortY dflt vsD := by
  have hv : vsD.size ≤ 1000 := by
    have h := rc2
    unfold vsD
    rw [← size_l, ofL_data]
    generalize Lib.runeCount dflt.ve = n at h
    have : n = 0 ∨ n = 1 ∨ n = 2 := by omega
    rcases this with rfl | rfl | rfl <;> decide
  refine ⟨?_, ?_, ?_, ?_, ?_, ?_, ?_, hv⟩ <;> decide
def okSt (st : St) : Prop := st.1.length ≤ 1000 ∧ ∀ x ∈ st.1, x.1 ≤ 1000 ∧ good x.2
instance (st : St) : Decidable (okSt st) := by unfold okSt; infer_instance
theorem render_new {B : Nat} {w0 : World} {q : Nat} {gs : List Nat} {its : List (Nat × ByteArray)} {lev : Nat} {v : Value} {w : World} (h : LS B w0 q gs its lev v w) (hB : B ≤ w.heap.size) (hw0 : B ≤ w0.heap.size) (hok : okSt (its, lev)) :
    Calls Tryd.prog 12 #[.pointer (some ⟨q, 0, none⟩)] w fun e w' => e = .returned (.string (ofL (outL its dflt vsD its.length))) ∧ Below B w0 w' := by
  obtain ⟨hn, hits⟩ := hok
  obtain ⟨A, c, rfl, _⟩ := Kd.R_reads h.row
  refine render_c (q := q) (y := dflt) (vs := vsD) ?_ short_dflt hn hits
  refine (init_c (style_c h hB) hw0 short_dflt.2.2.2.2.1 short_dflt.2.2.2.2.2.2.1 (by simp at hn; omega) (fun x hx => ⟨(hits x hx).1, (hits x hx).2.1⟩)).mono ?_
  rintro e w' ⟨u, rfl, qs, ap, hap, hr⟩
  exact ⟨u, rfl, Nat.le_trans hw0 hr.bel.size, hr.bel, qs, ap, hap, RS.rd hr, hr.cells.1⟩
def plainF (l : List S28) : Option ByteArray := if l.length ≤ 20000 then (run l ([], 0)).bind fun st => if okSt st then some (ofL (outL st.1 dflt vsD st.1.length)) else none else none
def lengthF (l : List S28) : Option Int := if l.length ≤ 20000 then (run l ([], 0)).map fun st => (st.1.length : Int) else none
theorem plain_c (A : Option Addr) (c : Nat) (l : List S28) (r : ByteArray) (w : World) (hr : Kd.C k28 w A l.length l) (h : plainF l = some r) :
    Calls Tryd.prog 7 #[.slice A l.length c] w fun e w' => e = .returned (.string r) ∧ Below w.heap.size w w' := by
  unfold plainF at h
  by_cases hl : l.length ≤ 20000
  · rw [if_pos hl] at h
    obtain ⟨st, hs, h⟩ := Option.bind_eq_some_iff.1 h
    by_cases hok : okSt st
    · rw [if_pos hok] at h
      injection h with h
      have H := Aside0.mk (listOf_c l st hs hl A c w hr)
      have HO := Aside0.mk hok
      have HR := Aside0.mk h
      clear hr h hs hok
      go_enter Tryd.func7, Tryd.ntmps7
      go_wp2_with (first
        | (go_at_call 11; refine H.out.mono ?_; rintro e w1 ⟨q, gs, v, rfl, hz, hls⟩; have HLS := Aside0.mk hls; clear hls)
        | (go_at_call 12; refine (render_new HLS.out hz (Nat.le_refl _) HO.out).mono ?_; rintro e w2 ⟨rfl, hb⟩))
      go_ret
      rw [HR.out]
      exact ⟨rfl, hb⟩
    · rw [if_neg hok] at h
      cases h
  · rw [if_neg hl] at h
    cases h
theorem len_c {B : Nat} {w0 : World} {q : Nat} {gs : List Nat} {its : List (Nat × ByteArray)} {lev : Nat} {v : Value} {w : World} (h : LS B w0 q gs its lev v w) :
    Calls Tryd.prog 13 #[.pointer (some ⟨q, 0, none⟩)] w fun e w' => e = .returned (.int .i64 (its.length : Int)) ∧ w' = w := by
  obtain ⟨A, c, rfl, _⟩ := Kd.R_reads h.row
  have c3 := h.cells.1
  have hlen := h.len
  rw [hlen] at c3
  clear h hlen
  go_enter Tryd.func13, Tryd.ntmps13
  go_wp2
  go_ret
  exact ⟨rfl, rfl⟩
theorem length_c (A : Option Addr) (c : Nat) (l : List S28) (r : Int) (w : World) (hr : Kd.C k28 w A l.length l) (h : lengthF l = some r) :
    Calls Tryd.prog 8 #[.slice A l.length c] w fun e w' => e = .returned (.int .i64 r) ∧ Below w.heap.size w w' := by
  unfold lengthF at h
  by_cases hl : l.length ≤ 20000
  · rw [if_pos hl] at h
    obtain ⟨st, hs, h⟩ := Option.map_eq_some_iff.1 h
    have H := Aside0.mk (listOf_c l st hs hl A c w hr)
    have HR := Aside0.mk h
    clear hr h hs
    go_enter Tryd.func8, Tryd.ntmps8
    go_wp2_with (first
      | (go_at_call 11; refine H.out.mono ?_; rintro e w1 ⟨q, gs, v, rfl, hz, hls⟩; have HLS := Aside0.mk hls; clear hls)
      | (go_at_call 13; refine (len_c HLS.out).mono ?_; rintro e w2 ⟨rfl, hw⟩; replace hw := hw.symm; subst hw))
    go_ret
    rw [← HR.out]
    exact ⟨rfl, HLS.out.bel⟩
  · rw [if_neg hl] at h
    cases h
end Go.Proofs.YtemcjnminnnefaaDoor.LstM

namespace Go.Proofs.YtemcjnminnnefaaDoor.GivenLst
open Go.RowKit Go.Proofs.YtemcjnminnnefaaDoorW.PrintWords Go.Proofs.YtemcjnminnnefaaDoor.Common Go.Proofs.YtemcjnminnnefaaDoor.GFnListReset
set_option linter.unusedVariables false

def impl_ListPlain.f (l : List S28) : Option ByteArray := LstM.plainF l
theorem impl_ListPlain.calls (A : Option Addr) (c : Nat) (l : List S28) (r : ByteArray) (w : World) (hr : Kd.C k28 w A l.length l) (hc : l.length ≤ c) (h : impl_ListPlain.f l = some r) :
    Calls Tryd.prog 7 #[.slice A l.length c] w fun e w' => e = .returned (.string r) ∧ Below w.heap.size w w' := LstM.plain_c A c l r w hr h
def impl_ListLength.f (l : List S28) : Option Int := LstM.lengthF l
theorem impl_ListLength.calls (A : Option Addr) (c : Nat) (l : List S28) (r : Int) (w : World) (hr : Kd.C k28 w A l.length l) (hc : l.length ≤ c) (h : impl_ListLength.f l = some r) :
    Calls Tryd.prog 8 #[.slice A l.length c] w fun e w' => e = .returned (.int .i64 r) ∧ Below w.heap.size w w' := LstM.length_c A c l r w hr h
def spec_TxSimple.f (s : ByteArray) (b : Bool) : Option Bool := some (LstN.simple s b)
theorem spec_TxSimple.calls (s : ByteArray) (b : Bool) (r : Bool) (w : World) (h : spec_TxSimple.f s b = some r) :
    Calls Tryd.prog 10 #[.string s, .bool b] w fun e w' => e = .returned (.bool r) ∧ Below w.heap.size w w' := by
  injection h with h
  rw [← h]
  exact LstN.simple_walk s b w
end Go.Proofs.YtemcjnminnnefaaDoor.GivenLst
