/-
  Proved: the plain law behind Rows.FnListResetSaid, over numbers and lists alone. Conditions: none beyond the statement's own.
-/
import Derived.Test.YtemcjnminnnefaaDoorOpen33
import Derived.Test.YtemcjnminnnefaaDoorGFnListResetx2
import Derived.Test.YtemcjnminnnefaaDoorLstQ
namespace Go.Proofs.YtemcjnminnnefaaDoor.PureFnListReset
set_option linter.unusedVariables false
open Go.RowKit Go.Proofs.YtemcjnminnnefaaDoorW.PrintWords Go.Proofs.YtemcjnminnnefaaDoor.Read Go.Proofs.YtemcjnminnnefaaDoor.GFnListReset Go.Proofs.YtemcjnminnnefaaDoor.GivenLst Go.Proofs.YtemcjnminnnefaaDoor.LstP Go.Proofs.YtemcjnminnnefaaDoor.LstQ Go.Proofs.YtemcjnminnnefaaDoor.LstD Go.Proofs.YtemcjnminnnefaaDoor.LstM

def rst : S28 := ⟨5, ⟨#[]⟩, []⟩
theorem run_one (l : List S33) (hok : okL none l) : ∃ lev, run (steps 0 l) ([], 0) = some (l.map it, lev) := by
  obtain ⟨lev, h⟩ := run_steps l [] 0 none hok (.inl ⟨rfl, rfl⟩)
  exact ⟨lev, by simpa using h⟩
theorem run_both (a b : List S33) (ha : okL none a) : run (steps 0 a ++ [rst] ++ steps 0 b) ([], 0) = run (steps 0 b) ([], 0) := by
  obtain ⟨lev, h⟩ := run_one a ha
  rw [run_append, run_append, h, Option.bind_some]
  have : run [rst] (a.map it, lev) = some ([], 0) := rfl
  rw [this, Option.bind_some]
theorem j0_true (l0 l1 : List S33) : Ev (fun k => laws_FnListReset.j0 k l0 l1 true) true := Ev.step (f := fun _ => some true) (fun k => by rw [laws_FnListReset.j0]; rfl) (Ev.now true)
theorem j1_true (l0 l1 : List S33) : Ev (fun k => laws_FnListReset.j1 k l0 l1 true) true := Ev.step (f := fun _ => some true) (fun k => by rw [laws_FnListReset.j1]; rfl) (Ev.now true)
theorem j1_false (l0 l1 : List S33) (n0 : l0.length ≤ 60) (n1 : l1.length ≤ 60) (h0 : okL none l0) (h1 : okL none l1) : Ev (fun k => laws_FnListReset.j1 k l0 l1 false) true := by
  obtain ⟨K0, e0⟩ := steps_ev l0 n0 h0
  obtain ⟨K1, e1⟩ := steps_ev l1 n1 h1
  have s0 := steps_len l0 0 none h0 (by simp [pv]) (by omega)
  have s1 := steps_len l1 0 none h1 (by simp [pv]) (by omega)
  obtain ⟨lev, hr⟩ := run_one l1 h1
  have hb := run_both l0 l1 h0
  rw [hr] at hb
  have hs := ok_st l1 lev n1 h1
  have p1 : impl_ListPlain.f (steps 0 l1) = some (Common.ofL (LstK.outL (l1.map it) LstI.dflt vsD (l1.map it).length)) := by
    unfold impl_ListPlain.f plainF
    rw [if_pos (by omega), hr, Option.bind_some, if_pos hs]
  have p2 : impl_ListPlain.f (steps 0 l0 ++ [rst] ++ steps 0 l1) = some (Common.ofL (LstK.outL (l1.map it) LstI.dflt vsD (l1.map it).length)) := by
    unfold impl_ListPlain.f plainF
    rw [if_pos (by simp; omega), hb, Option.bind_some, if_pos hs]
  have p3 : impl_ListLength.f (steps 0 l0 ++ [rst] ++ steps 0 l1) = some (l1.length : Int) := by
    unfold impl_ListLength.f lengthF
    rw [if_pos (by simp; omega), hb]
    simp
  refine ⟨K0 + K1 + 1, fun k hk => ?_⟩
  obtain ⟨k, rfl⟩ : ∃ m, k = m + 1 := ⟨k - 1, by omega⟩
  have f0 : spec_LsSteps.f k l0 = some (steps 0 l0) := e0 k (by omega)
  have f1 : spec_LsSteps.f k l1 = some (steps 0 l1) := e1 k (by omega)
  have hrst : (⟨5, (⟨#[]⟩ : ByteArray), ([] : List ByteArray)⟩ : S28) = rst := rfl
  show laws_FnListReset.j1 (k + 1) l0 l1 false = some true
  rw [laws_FnListReset.j1, if_neg (by decide), f0, Option.bind_some, if_pos (by omega), Option.bind_some, f1, Option.bind_some, hrst, if_pos (by simp; omega), Option.bind_some, p2, Option.bind_some, Option.bind_some, p1, Option.bind_some, if_pos rfl, p3, Option.bind_some]
  simp
theorem pure (l0 : List (S33)) (hg0 : (Goods (good33)) l0) (l1 : List (S33)) (hg1 : (Goods (good33)) l1) : ∃ k, laws_FnListReset.f k l0 l1 = some true := by
  refine Ev.rounds (g := fun k => laws_FnListReset.f k l0 l1) ?_
  obtain ⟨b0, f0, g0⟩ := fits l0
  obtain ⟨b1, f1, g1⟩ := fits l1
  refine Ev.congr (f := fun k => (laws_zzFits1.f k l0).bind fun t121 => (if t121 = true then ((laws_zzFits1.f k l1).bind fun t122 => (laws_FnListReset.j0 k l0 l1 (!t122))) else (laws_FnListReset.j0 k l0 l1 true))) (fun k => rfl) ?_
  refine Ev.bind f0 ?_
  cases b0 with
  | false => exact j0_true l0 l1
  | true =>
    refine Ev.congr (f := fun k => (laws_zzFits1.f k l1).bind fun t122 => (laws_FnListReset.j0 k l0 l1 (!t122))) (fun k => by simp) ?_
    refine Ev.bind f1 ?_
    cases b1 with
    | false => exact j0_true l0 l1
    | true =>
      obtain ⟨r0, q0, d0⟩ := right_ev l0 (g0 rfl)
      obtain ⟨r1, q1, d1⟩ := right_ev l1 (g1 rfl)
      refine Ev.step (f := fun k => (spec_LsRight.f k l0).bind fun t123 => (if t123 = true then ((spec_LsRight.f k l1).bind fun t124 => (laws_FnListReset.j1 k l0 l1 (!t124))) else (laws_FnListReset.j1 k l0 l1 true))) (fun k => by rw [laws_FnListReset.j0, if_neg (by decide)]) ?_
      refine Ev.bind q0 ?_
      cases r0 with
      | false => exact j1_true l0 l1
      | true =>
        refine Ev.congr (f := fun k => (spec_LsRight.f k l1).bind fun t124 => (laws_FnListReset.j1 k l0 l1 (!t124))) (fun k => by simp) ?_
        refine Ev.bind q1 ?_
        cases r1 with
        | false => exact j1_true l0 l1
        | true => exact j1_false l0 l1 (d0 rfl).1 (d1 rfl).1 (d0 rfl).2 (d1 rfl).2
end Go.Proofs.YtemcjnminnnefaaDoor.PureFnListReset
