/-
  Proved: the steps of a right list, and what a writer makes of them. Conditions: lists that are right.
-/
import Derived.Test.YtemcjnminnnefaaDoorGFnListResetx2
namespace Go.Proofs.YtemcjnminnnefaaDoor.LstP
open Go.RowKit Go.Proofs.YtemcjnminnnefaaDoorW.PrintWords Go.Proofs.YtemcjnminnnefaaDoorW.PrintMore Go.Proofs.YtemcjnminnnefaaDoor.Common Go.Proofs.YtemcjnminnnefaaDoor.GFnListReset Go.Proofs.YtemcjnminnnefaaDoor.GivenLst Go.Proofs.YtemcjnminnnefaaDoor.LstT Go.Proofs.YtemcjnminnnefaaDoor.LstC Go.Proofs.YtemcjnminnnefaaDoor.LstD Go.Proofs.YtemcjnminnnefaaDoor.LstM
set_option linter.unusedVariables false
set_option linter.unusedSimpArgs false

def g (l : List S33) (i : Nat) : S33 := rd_T33 l (i : Int)
theorem g_drop (l : List S33) (i : Nat) (h : i < l.length) : l.drop i = g l i :: l.drop (i + 1) := by
  rw [List.drop_eq_getElem_cons h]
  simp [g, rd_T33, List.getD_eq_getElem?_getD, List.getElem?_eq_getElem h]
def okL : Option Nat → List S33 → Prop
  | _, [] => True
  | p, x :: t => 0 ≤ x.f1 ∧ x.f1.toNat ≤ (match p with | none => 0 | some m => m + 1) ∧ x.f0.size ≤ 200 ∧ LstN.simple x.f0 false = true ∧ okL (some x.f1.toNat) t
def prevO (l : List S33) (i : Nat) : Option Nat := if i = 0 then none else some (g l (i - 1)).f1.toNat
theorem fits (l : List S33) : ∃ b, Ev (fun k => laws_zzFits1.f k l) b ∧ (b = true → l.length ≤ 2147483647) := by
  by_cases h : (l.length : Int) > 2147483647
  · exact ⟨false, ⟨0, fun k _ => by show laws_zzFits1.f k l = _; unfold laws_zzFits1.f; rw [if_pos h]⟩, fun h => by cases h⟩
  · have go : ∀ d i : Nat, i + d = l.length → ∃ b, Ev (fun k => laws_zzFits1.l0 k l (l.length : Int) (i : Int)) b := by
      intro d
      induction d with
      | zero =>
        intro i hi
        exact ⟨true, Ev.step (f := fun _ => some true) (fun k => by simp only [laws_zzFits1.l0]; rw [if_neg (by omega)]) (Ev.now true)⟩
      | succ d ih =>
        intro i hi
        obtain ⟨b2, hb2⟩ := ih (i + 1) (by omega)
        by_cases hs : ((rd_T33 l (i : Int)).f0.size : Int) > 2147483647
        · refine ⟨false, Ev.step (f := fun _ => some false) (fun k => ?_) (Ev.now false)⟩
          simp only [laws_zzFits1.l0, laws_zzFits2.f]
          rw [if_pos (by omega), if_pos (by omega), if_pos (by omega), if_pos hs]
          rfl
        · refine ⟨b2, Ev.step (f := fun k => laws_zzFits1.l0 k l (l.length : Int) ((i + 1 : Nat) : Int)) (fun k => ?_) hb2⟩
          simp only [laws_zzFits1.l0, laws_zzFits2.f]
          rw [if_pos (by omega), if_pos (by omega), if_pos (by omega), if_neg hs, w64 _ (by omega) (by omega)]
          rfl
    obtain ⟨b, hb⟩ := go l.length 0 (by omega)
    exact ⟨b, Ev.congr (fun k => by show laws_zzFits1.f k l = _; unfold laws_zzFits1.f; rw [if_neg h]; rfl) hb, fun _ => by omega⟩
theorem right_loop (l : List S33) (hl : l.length ≤ 2147483647) : ∀ d i : Nat, i + d = l.length → (i = 0 ∨ (0 ≤ (g l (i - 1)).f1 ∧ (g l (i - 1)).f1 + 1 ≤ i)) →
    ∃ b, Ev (fun k => spec_LsRight.l0 k l l (l.length : Int) (i : Int)) b ∧ (b = true → l.length ≤ 60 ∧ okL (prevO l i) (l.drop i)) := by
  intro d
  induction d with
  | zero =>
    intro i hi hp
    refine ⟨decide ((l.length : Int) ≤ 60), Ev.step (f := fun _ => some (decide ((l.length : Int) ≤ 60))) (fun k => by simp only [spec_LsRight.l0]; rw [if_neg (by omega)]) (Ev.now _), fun h => ⟨by have := of_decide_eq_true h; omega, ?_⟩⟩
    rw [List.drop_eq_nil_of_le (by omega)]
    unfold okL
    trivial
  | succ d ih =>
    intro i hi hp
    have hlt : i < l.length := by omega
    rw [g_drop l i hlt]
    have hgi : rd_T33 l (i : Int) = g l i := rfl
    -- the bound of this item's level
    obtain ⟨M, hM, hMi, hstep⟩ : ∃ M : Int, M = ((match prevO l i with | none => 0 | some m => m + 1 : Nat) : Int) ∧ M ≤ i ∧ ∀ k, spec_LsRight.l0 (k + 1) l l (l.length : Int) (i : Int) = (if (g l i).f1 < 0 then (some false) else (if (g l i).f1 > M then (some false) else (if ((g l i).f0.size : Int) > 200 then (some false) else ((spec_TxSimple.f (g l i).f0 false).bind fun t => (if t = true then (spec_LsRight.l0 k l l (l.length : Int) ((i + 1 : Nat) : Int)) else (some false)))))) := by
      by_cases hz : i = 0
      · subst hz
        refine ⟨0, by simp [prevO], by omega, fun k => ?_⟩
        simp only [spec_LsRight.l0]
        rw [if_pos (by omega), if_pos (by omega), if_pos (by omega), if_neg (by omega), w64 (((0 : Nat) : Int) + 1) (by omega) (by omega)]
        rfl
      · obtain ⟨h0, h1⟩ : 0 ≤ (g l (i - 1)).f1 ∧ (g l (i - 1)).f1 + 1 ≤ i := hp.resolve_left hz
        have hw : wrap64 ((i : Int) - 1) = ((i - 1 : Nat) : Int) := by rw [w64 _ (by omega) (by omega)]; omega
        have hpr : rd_T33 l (((i - 1 : Nat)) : Int) = g l (i - 1) := rfl
        refine ⟨(g l (i - 1)).f1 + 1, ?_, ?_, fun k => ?_⟩
        · unfold prevO
          rw [if_neg hz]
          simp only
          omega
        · exact h1
        · simp only [spec_LsRight.l0]
          rw [if_pos (by omega), if_pos (by omega), if_pos (by omega), if_pos (by omega), hw, if_pos (by omega), if_pos (by omega), hpr, w64 ((i : Int) + 1) (by omega) (by omega), w64 ((g l (i - 1)).f1 + 1) (by omega) (by omega)]
          rfl
    have stop : ∀ F : Nat → Option Bool, (∀ k, F k = some false) → (∀ k, spec_LsRight.l0 (k + 1) l l (l.length : Int) (i : Int) = F k) → ∃ b, Ev (fun k => spec_LsRight.l0 k l l (l.length : Int) (i : Int)) b ∧ (b = true → l.length ≤ 60 ∧ okL (prevO l i) (g l i :: l.drop (i + 1))) := fun F hF h =>
      ⟨false, Ev.step (f := fun _ => some false) (fun k => (h k).trans (hF k)) (Ev.now false), fun h => by cases h⟩
    by_cases c1 : (g l i).f1 < 0
    · exact stop _ (fun k => if_pos c1) hstep
    · simp only [if_neg c1] at hstep
      by_cases c2 : (g l i).f1 > M
      · exact stop _ (fun k => if_pos c2) hstep
      · simp only [if_neg c2] at hstep
        by_cases c3 : ((g l i).f0.size : Int) > 200
        · exact stop _ (fun k => if_pos c3) hstep
        · simp only [if_neg c3] at hstep
          unfold spec_TxSimple.f at hstep
          simp only [Option.bind_some] at hstep
          by_cases c4 : LstN.simple (g l i).f0 false = true
          · simp only [if_pos c4] at hstep
            obtain ⟨b, hb, hr⟩ := ih (i + 1) (by omega) (.inr ⟨by show 0 ≤ (g l (i + 1 - 1)).f1; rw [Nat.add_sub_cancel]; omega, by rw [Nat.add_sub_cancel]; omega⟩)
            refine ⟨b, Ev.step (fun k => hstep k) hb, fun hbt => ⟨(hr hbt).1, by omega, ?_, by omega, c4, ?_⟩⟩
            · have : ((g l i).f1.toNat : Int) ≤ M := by omega
              rw [hM] at this
              exact_mod_cast this
            · have := (hr hbt).2
              unfold prevO at this
              rwa [if_neg (by omega), Nat.add_sub_cancel] at this
          · exact stop _ (fun k => if_neg c4) hstep
theorem right_ev (l : List S33) (hl : l.length ≤ 2147483647) : ∃ b, Ev (fun k => spec_LsRight.f k l) b ∧ (b = true → l.length ≤ 60 ∧ okL none l) := by
  obtain ⟨b, hb, hr⟩ := right_loop l hl l.length 0 (by omega) (.inl rfl)
  exact ⟨b, Ev.congr (fun k => rfl) hb, fun h => by simpa [prevO] using hr h⟩
end Go.Proofs.YtemcjnminnnefaaDoor.LstP

namespace Go.Proofs.YtemcjnminnnefaaDoor.LstQ
open Go.RowKit Go.Proofs.YtemcjnminnnefaaDoorW.PrintWords Go.Proofs.YtemcjnminnnefaaDoorW.PrintMore Go.Proofs.YtemcjnminnnefaaDoor.Common Go.Proofs.YtemcjnminnnefaaDoor.GFnListReset Go.Proofs.YtemcjnminnnefaaDoor.GivenLst Go.Proofs.YtemcjnminnnefaaDoor.LstT Go.Proofs.YtemcjnminnnefaaDoor.LstC Go.Proofs.YtemcjnminnnefaaDoor.LstD Go.Proofs.YtemcjnminnnefaaDoor.LstM Go.Proofs.YtemcjnminnnefaaDoor.LstP
set_option linter.unusedVariables false
set_option linter.unusedSimpArgs false

def ind : S28 := ⟨2, ⟨#[]⟩, []⟩
def uni : S28 := ⟨3, ⟨#[]⟩, []⟩
def itm (s : ByteArray) : S28 := ⟨0, s, []⟩
def steps : Nat → List S33 → List S28
  | _, [] => []
  | lev, x :: t => List.replicate (x.f1.toNat - lev) ind ++ (List.replicate (lev - x.f1.toNat) uni ++ itm x.f0 :: steps x.f1.toNat t)
theorem down_loop (l : List S33) (len i : Int) (s : ByteArray) (t : Nat) (r : List S28) : ∀ (n lev : Nat) (out : List S28), lev = t + n → out.length + n ≤ 1000000 → lev ≤ 1000000 →
    Ev (fun k => spec_LsSteps.l0 k (out ++ List.replicate n uni ++ [itm s]) (t : Int) l len (wrap64 (i + 1))) r → Ev (fun k => spec_LsSteps.l2 k out (lev : Int) l len i s (t : Int)) r := by
  intro n
  induction n with
  | zero =>
    intro lev out hl ho hb h
    subst hl
    refine Ev.step (fun k => ?_) h
    simp only [spec_LsSteps.l2]
    rw [if_neg (by omega), if_pos (by omega)]
    simp [itm]
  | succ n ih =>
    intro lev out hl ho hb h
    refine Ev.step (fun k => ?_) (ih (lev - 1) (out ++ [uni]) (by omega) (by simp; omega) (by omega) (by
      rw [List.append_assoc out [uni], List.singleton_append, ← List.replicate_succ]; exact h))
    simp only [spec_LsSteps.l2]
    rw [if_pos (by omega), if_pos (by omega), w64 _ (by omega) (by omega), show ((lev : Int) - 1) = ((lev - 1 : Nat) : Int) by omega]
    rfl
theorem up_loop (l : List S33) (len i : Int) (s : ByteArray) (t : Nat) (r : List S28) : ∀ (n lev : Nat) (out : List S28), t = lev + n → out.length + n ≤ 1000000 → t ≤ 1000000 →
    Ev (fun k => spec_LsSteps.l2 k (out ++ List.replicate n ind) (t : Int) l len i s (t : Int)) r → Ev (fun k => spec_LsSteps.l1 k out (lev : Int) l len i s (t : Int)) r := by
  intro n
  induction n with
  | zero =>
    intro lev out hl ho hb h
    obtain rfl : lev = t := by omega
    refine Ev.step (fun k => ?_) h
    simp only [spec_LsSteps.l1]
    rw [if_neg (by omega)]
    simp
  | succ n ih =>
    intro lev out hl ho hb h
    refine Ev.step (fun k => ?_) (ih (lev + 1) (out ++ [ind]) (by omega) (by simp; omega) (by omega) (by
      rw [List.append_assoc out [ind], List.singleton_append, ← List.replicate_succ]; exact h))
    simp only [spec_LsSteps.l1]
    rw [if_pos (by omega), if_pos (by omega), w64 _ (by omega) (by omega)]
    rfl
def pv : Option Nat → Nat
  | none => 0
  | some m => m + 1
theorem okL_cons {p : Option Nat} {x : S33} {t : List S33} (h : okL p (x :: t)) : 0 ≤ x.f1 ∧ x.f1.toNat ≤ pv p ∧ x.f0.size ≤ 200 ∧ LstN.simple x.f0 false = true ∧ okL (some x.f1.toNat) t := by
  unfold okL at h
  cases p <;> exact h
theorem wi (i : Nat) (h : i ≤ 1000) : wrap64 ((i : Int) + 1) = ((i + 1 : Nat) : Int) := by rw [w64 _ (by omega) (by omega)]; omega
theorem steps_loop (l : List S33) (hl : l.length ≤ 60) : ∀ (d i lev : Nat) (p : Option Nat) (out : List S28), i + d = l.length → out.length ≤ 200 * i → lev ≤ i → okL p (l.drop i) → pv p ≤ lev + 1 →
    Ev (fun k => spec_LsSteps.l0 k out (lev : Int) l (l.length : Int) (i : Int)) (out ++ steps lev (l.drop i)) := by
  intro d
  induction d with
  | zero =>
    intro i lev p out hi ho hlev hok hp
    rw [List.drop_eq_nil_of_le (by omega)]
    refine Ev.step (f := fun _ => some out) (fun k => by simp only [spec_LsSteps.l0]; rw [if_neg (by omega)]) ?_
    simp only [steps, List.append_nil]
    exact Ev.now out
  | succ d ih =>
    intro i lev p out hi ho hlev hok hp
    have hlt : i < l.length := by omega
    rw [g_drop l i hlt] at hok ⊢
    obtain ⟨h0, h1, h2, h3, h4⟩ := okL_cons hok
    have hf : (g l i).f1 = (((g l i).f1.toNat : Nat) : Int) := by omega
    refine Ev.step (f := fun k => spec_LsSteps.l1 k out (lev : Int) l (l.length : Int) (i : Int) (g l i).f0 (((g l i).f1.toNat : Nat) : Int)) (fun k => ?_) ?_
    · simp only [spec_LsSteps.l0]
      rw [if_pos (by omega), if_pos (by omega), if_pos (by omega), ← hf]
      rfl
    · rw [steps]
      obtain ⟨t, ht⟩ : ∃ t, t = (g l i).f1.toNat := ⟨_, rfl⟩
      rw [← ht] at h1 h4 ⊢
      have hnext := fun out' ho' => ih (i + 1) t (some t) out' (by omega) ho' (by omega) h4 (by simp [pv])
      have hw := wi i (by omega)
      have ht2 : t ≤ lev + 1 := Nat.le_trans h1 hp
      have hln : l.length = i + (d + 1) := hi.symm
      clear hok h0 h2 h3 h4 hf ht h1 hp ih
      rcases Nat.lt_or_ge t lev with hc | hc
      · refine Ev.step (f := fun k => spec_LsSteps.l2 k out (lev : Int) l (l.length : Int) (i : Int) (g l i).f0 ((t : Nat) : Int)) (fun k => by simp only [spec_LsSteps.l1]; rw [if_neg (by omega)]) ?_
        refine down_loop l _ _ _ t _ (lev - t) lev out (by omega) (by omega) (by omega) ?_
        rw [hw, show t - lev = 0 by omega, List.replicate_zero, List.nil_append]
        have := hnext (out ++ List.replicate (lev - t) uni ++ [itm (g l i).f0]) (by simp; omega)
        simpa [List.append_assoc] using this
      · refine up_loop l _ _ _ t _ (t - lev) lev out (by omega) (by omega) (by omega) ?_
        refine down_loop l _ _ _ t _ 0 t _ (by omega) (by simp; omega) (by omega) ?_
        rw [hw, show lev - t = 0 by omega, List.replicate_zero, List.nil_append]
        have := hnext (out ++ List.replicate (t - lev) ind ++ [itm (g l i).f0]) (by simp; omega)
        simpa [List.append_assoc] using this
theorem steps_ev (l : List S33) (hl : l.length ≤ 60) (hok : okL none l) : Ev (fun k => spec_LsSteps.f k l) (steps 0 l) := by
  have h := steps_loop l hl l.length 0 0 none [] (by omega) (by simp) (by omega) (by simpa using hok) (by simp [pv])
  rw [List.drop_zero, List.nil_append] at h
  exact Ev.congr (fun k => rfl) h
theorem steps_len (l : List S33) : ∀ (lev : Nat) (p : Option Nat), okL p l → pv p ≤ lev + 1 → lev + l.length ≤ 100 → (steps lev l).length ≤ 150 * l.length := by
  induction l with
  | nil => intro lev p _ _ _; simp [steps]
  | cons x t ih =>
    intro lev p hok hp hb
    obtain ⟨h0, h1, h2, h3, h4⟩ := okL_cons hok
    simp only [List.length_cons] at hb ⊢
    have := ih x.f1.toNat (some x.f1.toNat) h4 (by simp [pv]) (by omega)
    simp only [steps, List.length_append, List.length_replicate, List.length_cons]
    omega
/-! ### what a writer makes of them -/
theorem run_append (a b : List S28) (st : St) : run (a ++ b) st = (run a st).bind (run b) := by
  induction a generalizing st with
  | nil => rfl
  | cons x t ih =>
    rw [List.cons_append, run, run]
    cases stepF x st with
    | none => rfl
    | some st2 => exact ih st2
theorem run_uni (n : Nat) (its : List (Nat × ByteArray)) (lev : Nat) : run (List.replicate n uni) (its, lev) = some (its, lev - n) := by
  induction n generalizing lev with
  | zero => rfl
  | succ n ih =>
    rw [List.replicate_succ, run]
    have : stepF uni (its, lev) = some (its, lev - 1) := rfl
    rw [this, Option.bind_some, ih]
    congr 2
    omega
theorem good_of (s : ByteArray) (h : s.size ≤ 200) (hs : LstN.simple s false = true) : good s := ⟨by omega, LstN.simple_good s hs⟩
theorem run_itm (s : ByteArray) (h : good s) (its : List (Nat × ByteArray)) (lev : Nat) (r : List S28) : run (itm s :: r) (its, lev) = run r (its ++ [(lev, s)], lev) := by
  rw [run]
  have : stepF (itm s) (its, lev) = some (its ++ [(lev, s)], lev) := by
    unfold stepF itm
    rw [if_pos rfl, if_pos h]
  rw [this, Option.bind_some]
def it (x : S33) : Nat × ByteArray := (x.f1.toNat, x.f0)
theorem run_steps (l : List S33) : ∀ (its : List (Nat × ByteArray)) (lev : Nat) (p : Option Nat), okL p l → (p = none ∧ lev = 0) ∨ (p = some lev ∧ ∃ s, its.getLast? = some (lev, s)) → ∃ lev', run (steps lev l) (its, lev) = some (its ++ l.map it, lev') := by
  induction l with
  | nil => intro its lev p _ _; exact ⟨lev, by simp [steps, run]⟩
  | cons x t ih =>
    intro its lev p hok hp
    obtain ⟨h0, h1, h2, h3, h4⟩ := okL_cons hok
    have hg := good_of x.f0 h2 h3
    obtain ⟨lev', hr⟩ := ih (its ++ [(x.f1.toNat, x.f0)]) x.f1.toNat (some x.f1.toNat) h4 (.inr ⟨rfl, x.f0, by simp⟩)
    refine ⟨lev', ?_⟩
    rw [steps, run_append]
    have hup : run (List.replicate (x.f1.toNat - lev) ind) (its, lev) = some (its, max lev x.f1.toNat) := by
      rcases hp with ⟨rfl, rfl⟩ | ⟨rfl, s, hs⟩
      · simp only [pv] at h1
        rw [show x.f1.toNat - 0 = 0 by omega, List.replicate_zero, Nat.max_eq_left (by omega)]
        rfl
      · simp only [pv] at h1
        rcases Nat.lt_or_ge lev x.f1.toNat with hc | hc
        · rw [show x.f1.toNat - lev = 1 by omega, List.replicate_one]
          show (stepF ind (its, lev)).bind (run []) = _
          have : stepF ind (its, lev) = some (its, lev + 1) := by
            show some (its, indentF its lev) = _
            unfold indentF
            rw [hs]
            simp
          rw [this, show max lev x.f1.toNat = lev + 1 by omega]
          rfl
        · rw [show x.f1.toNat - lev = 0 by omega, List.replicate_zero, Nat.max_eq_left hc]
          rfl
    rw [hup, Option.bind_some, run_append, run_uni, Option.bind_some, run_itm _ hg, show max lev x.f1.toNat - (lev - x.f1.toNat) = x.f1.toNat by omega, hr]
    simp [it]
theorem levels (l : List S33) : ∀ (p : Option Nat), okL p l → ∀ x ∈ l, x.f1.toNat ≤ pv p + l.length ∧ good x.f0 := by
  induction l with
  | nil => intro p _ x hx; cases hx
  | cons y t ih =>
    intro p hok x hx
    obtain ⟨h0, h1, h2, h3, h4⟩ := okL_cons hok
    rcases List.mem_cons.1 hx with rfl | hx
    · exact ⟨by omega, good_of _ h2 h3⟩
    · have := ih _ h4 x hx
      have h5 : pv (some y.f1.toNat) = y.f1.toNat + 1 := rfl
      rw [h5] at this
      simp only [List.length_cons]
      exact ⟨by omega, this.2⟩
theorem ok_st (l : List S33) (lev : Nat) (hl : l.length ≤ 60) (hok : okL none l) : okSt (l.map it, lev) := by
  refine ⟨by simp; omega, fun x hx => ?_⟩
  obtain ⟨z, hz, rfl⟩ := List.mem_map.1 hx
  have := levels l none hok z hz
  rw [show pv none = 0 from rfl] at this
  exact ⟨by show z.f1.toNat ≤ 1000; omega, this.2⟩
end Go.Proofs.YtemcjnminnnefaaDoor.LstQ
