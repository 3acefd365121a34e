/-
  Proved: the plain law behind Rows.FnListHTMLSaid, over numbers and lists alone. Conditions: none beyond the statement's own.
-/
import Derived.Test.YtphnnbbgcnilgaaRead
import Derived.Test.YtphnnbbgcnilgaaGFnListHTMLx0
import Derived.Test.YtphnnbbgcnilgaaGFnListHTMLx1
import Derived.Test.YtphnnbbgcnilgaaGFnListHTMLx3
import Derived.Test.YtphnnbbgcnilgaaGFnListHTMLx4
import Derived.Test.YtphnnbbgcnilgaaGFnListHTMLx5
namespace Go.Proofs.Ytphnnbbgcnilgaa.Read
open Go.ChangeShapes Go.WideShapes Go.RowKit Go.Deep Go.Proofs.YtphnnbbgcnilgaaW.PrintWords Go.Proofs.Ytphnnbbgcnilgaa.GFnListHTML
def good49 (m : S49) : Prop := (Lit.int .i64 m.f1).wf = true
theorem opens49 : Opens Try.prog 49 k49 good49 := by
  intro H enc w base spare held fuel cs x h
  obtain ⟨hl, n, hf⟩ := struct_cells Try.underlying49 (by kernel_rfl) (by kernel_rfl) h
  obtain ⟨v0, y0, e0, t0⟩ := hf 0 _ rfl
  obtain ⟨v1, y1, e1, t1⟩ := hf 1 _ rfl
  obtain ⟨a, ha, _⟩ := DataW.trod_string Try.underlying9 t0
  obtain ⟨b, hb, _, wb⟩ := DataW.trod_int Try.underlying3 t1
  cases ha; cases hb
  match cs, hl with
  | [c0, c1], _ =>
    cases e0; cases e1
    exact ⟨⟨a, b⟩, ⟨[.string a], [.int .i64 b], rfl, rfl, rfl⟩, wb⟩
end Go.Proofs.Ytphnnbbgcnilgaa.Read

namespace Go.Proofs.Ytphnnbbgcnilgaa.LstP
open Go.RowKit Go.Proofs.YtphnnbbgcnilgaaW.PrintWords Go.Proofs.YtphnnbbgcnilgaaW.PrintMore Go.Proofs.Ytphnnbbgcnilgaa.Common Go.Proofs.Ytphnnbbgcnilgaa.GFnListHTML Go.Proofs.Ytphnnbbgcnilgaa.GivenHtml Go.Proofs.Ytphnnbbgcnilgaa.LstT Go.Proofs.Ytphnnbbgcnilgaa.LstC Go.Proofs.Ytphnnbbgcnilgaa.LstD Go.Proofs.Ytphnnbbgcnilgaa.GivenHtml
set_option linter.unusedVariables false
set_option linter.unusedSimpArgs false

def g (l : List S49) (i : Nat) : S49 := rd_T49 l (i : Int)
theorem g_drop (l : List S49) (i : Nat) (h : i < l.length) : l.drop i = g l i :: l.drop (i + 1) := by
  rw [List.drop_eq_getElem_cons h]
  simp [g, rd_T49, List.getD_eq_getElem?_getD, List.getElem?_eq_getElem h]
def okL : Option Nat → List S49 → Prop
  | _, [] => True
  | p, x :: t => 0 ≤ x.f1 ∧ x.f1.toNat ≤ (match p with | none => 0 | some m => m + 1) ∧ x.f0.size ≤ 200 ∧ LstN.simple x.f0 false = true ∧ okL (some x.f1.toNat) t
def prevO (l : List S49) (i : Nat) : Option Nat := if i = 0 then none else some (g l (i - 1)).f1.toNat
theorem fits (l : List S49) : ∃ b, Ev (fun k => laws_zzFits1.f k l) b ∧ (b = true → l.length ≤ 2147483647) := by
  by_cases h : (l.length : Int) > 2147483647
  · exact ⟨false, ⟨0, fun k _ => by show laws_zzFits1.f k l = _; unfold laws_zzFits1.f; rw [if_pos h]⟩, fun h => by cases h⟩
  · have go : ∀ d i : Nat, i + d = l.length → ∃ b, Ev (fun k => laws_zzFits1.l0 k l (l.length : Int) (i : Int)) b := by
      intro d
      induction d with
      | zero =>
        intro i hi
        exact ⟨true, Ev.step (f := fun _ => some true) (fun k => by simp only [laws_zzFits1.l0]; rw [if_neg (by omega)]) (Ev.now true)⟩
      | succ d ih =>
        intro i hi
        obtain ⟨b2, hb2⟩ := ih (i + 1) (by omega)
        by_cases hs : ((rd_T49 l (i : Int)).f0.size : Int) > 2147483647
        · refine ⟨false, Ev.step (f := fun _ => some false) (fun k => ?_) (Ev.now false)⟩
          simp only [laws_zzFits1.l0, laws_zzFits2.f]
          rw [if_pos (by omega), if_pos (by omega), if_pos (by omega), if_pos hs]
          rfl
        · refine ⟨b2, Ev.step (f := fun k => laws_zzFits1.l0 k l (l.length : Int) ((i + 1 : Nat) : Int)) (fun k => ?_) hb2⟩
          simp only [laws_zzFits1.l0, laws_zzFits2.f]
          rw [if_pos (by omega), if_pos (by omega), if_pos (by omega), if_neg hs, w64 _ (by omega) (by omega)]
          rfl
    obtain ⟨b, hb⟩ := go l.length 0 (by omega)
    exact ⟨b, Ev.congr (fun k => by show laws_zzFits1.f k l = _; unfold laws_zzFits1.f; rw [if_neg h]; rfl) hb, fun _ => by omega⟩
theorem right_loop (l : List S49) (hl : l.length ≤ 2147483647) : ∀ d i : Nat, i + d = l.length → (i = 0 ∨ (0 ≤ (g l (i - 1)).f1 ∧ (g l (i - 1)).f1 + 1 ≤ i)) →
    ∃ b, Ev (fun k => spec_LsRight.l0 k l l (l.length : Int) (i : Int)) b ∧ (b = true → l.length ≤ 60 ∧ okL (prevO l i) (l.drop i)) := by
  intro d
  induction d with
  | zero =>
    intro i hi hp
    refine ⟨decide ((l.length : Int) ≤ 60), Ev.step (f := fun _ => some (decide ((l.length : Int) ≤ 60))) (fun k => by simp only [spec_LsRight.l0]; rw [if_neg (by omega)]) (Ev.now _), fun h => ⟨by have := of_decide_eq_true h; omega, ?_⟩⟩
    rw [List.drop_eq_nil_of_le (by omega)]
    unfold okL
    trivial
  | succ d ih =>
    intro i hi hp
    have hlt : i < l.length := by omega
    rw [g_drop l i hlt]
    have hgi : rd_T49 l (i : Int) = g l i := rfl
    -- the bound of this item's level
    obtain ⟨M, hM, hMi, hstep⟩ : ∃ M : Int, M = ((match prevO l i with | none => 0 | some m => m + 1 : Nat) : Int) ∧ M ≤ i ∧ ∀ k, spec_LsRight.l0 (k + 1) l l (l.length : Int) (i : Int) = (if (g l i).f1 < 0 then (some false) else (if (g l i).f1 > M then (some false) else (if ((g l i).f0.size : Int) > 200 then (some false) else ((spec_TxSimple.f (g l i).f0 false).bind fun t => (if t = true then (spec_LsRight.l0 k l l (l.length : Int) ((i + 1 : Nat) : Int)) else (some false)))))) := by
      by_cases hz : i = 0
      · subst hz
        refine ⟨0, by simp [prevO], by omega, fun k => ?_⟩
        simp only [spec_LsRight.l0]
        rw [if_pos (by omega), if_pos (by omega), if_pos (by omega), if_neg (by omega), w64 (((0 : Nat) : Int) + 1) (by omega) (by omega)]
        rfl
      · obtain ⟨h0, h1⟩ : 0 ≤ (g l (i - 1)).f1 ∧ (g l (i - 1)).f1 + 1 ≤ i := hp.resolve_left hz
        have hw : wrap64 ((i : Int) - 1) = ((i - 1 : Nat) : Int) := by rw [w64 _ (by omega) (by omega)]; omega
        have hpr : rd_T49 l (((i - 1 : Nat)) : Int) = g l (i - 1) := rfl
        refine ⟨(g l (i - 1)).f1 + 1, ?_, ?_, fun k => ?_⟩
        · unfold prevO
          rw [if_neg hz]
          simp only
          omega
        · exact h1
        · simp only [spec_LsRight.l0]
          rw [if_pos (by omega), if_pos (by omega), if_pos (by omega), if_pos (by omega), hw, if_pos (by omega), if_pos (by omega), hpr, w64 ((i : Int) + 1) (by omega) (by omega), w64 ((g l (i - 1)).f1 + 1) (by omega) (by omega)]
          rfl
    have stop : ∀ F : Nat → Option Bool, (∀ k, F k = some false) → (∀ k, spec_LsRight.l0 (k + 1) l l (l.length : Int) (i : Int) = F k) → ∃ b, Ev (fun k => spec_LsRight.l0 k l l (l.length : Int) (i : Int)) b ∧ (b = true → l.length ≤ 60 ∧ okL (prevO l i) (g l i :: l.drop (i + 1))) := fun F hF h =>
      ⟨false, Ev.step (f := fun _ => some false) (fun k => (h k).trans (hF k)) (Ev.now false), fun h => by cases h⟩
    by_cases c1 : (g l i).f1 < 0
    · exact stop _ (fun k => if_pos c1) hstep
    · simp only [if_neg c1] at hstep
      by_cases c2 : (g l i).f1 > M
      · exact stop _ (fun k => if_pos c2) hstep
      · simp only [if_neg c2] at hstep
        by_cases c3 : ((g l i).f0.size : Int) > 200
        · exact stop _ (fun k => if_pos c3) hstep
        · simp only [if_neg c3] at hstep
          unfold spec_TxSimple.f at hstep
          simp only [Option.bind_some] at hstep
          by_cases c4 : LstN.simple (g l i).f0 false = true
          · simp only [if_pos c4] at hstep
            obtain ⟨b, hb, hr⟩ := ih (i + 1) (by omega) (.inr ⟨by show 0 ≤ (g l (i + 1 - 1)).f1; rw [Nat.add_sub_cancel]; omega, by rw [Nat.add_sub_cancel]; omega⟩)
            refine ⟨b, Ev.step (fun k => hstep k) hb, fun hbt => ⟨(hr hbt).1, by omega, ?_, by omega, c4, ?_⟩⟩
            · have : ((g l i).f1.toNat : Int) ≤ M := by omega
              rw [hM] at this
              exact_mod_cast this
            · have := (hr hbt).2
              unfold prevO at this
              rwa [if_neg (by omega), Nat.add_sub_cancel] at this
          · exact stop _ (fun k => if_neg c4) hstep
theorem right_ev (l : List S49) (hl : l.length ≤ 2147483647) : ∃ b, Ev (fun k => spec_LsRight.f k l) b ∧ (b = true → l.length ≤ 60 ∧ okL none l) := by
  obtain ⟨b, hb, hr⟩ := right_loop l hl l.length 0 (by omega) (.inl rfl)
  exact ⟨b, Ev.congr (fun k => rfl) hb, fun h => by simpa [prevO] using hr h⟩
end Go.Proofs.Ytphnnbbgcnilgaa.LstP

namespace Go.Proofs.Ytphnnbbgcnilgaa.LstQ
open Go.RowKit Go.Proofs.YtphnnbbgcnilgaaW.PrintWords Go.Proofs.YtphnnbbgcnilgaaW.PrintMore Go.Proofs.Ytphnnbbgcnilgaa.Common Go.Proofs.Ytphnnbbgcnilgaa.GFnListHTML Go.Proofs.Ytphnnbbgcnilgaa.GivenHtml Go.Proofs.Ytphnnbbgcnilgaa.LstT Go.Proofs.Ytphnnbbgcnilgaa.LstC Go.Proofs.Ytphnnbbgcnilgaa.LstD Go.Proofs.Ytphnnbbgcnilgaa.GivenHtml Go.Proofs.Ytphnnbbgcnilgaa.LstP
set_option linter.unusedVariables false
set_option linter.unusedSimpArgs false

def ind : S58 := ⟨2, ⟨#[]⟩, []⟩
def uni : S58 := ⟨3, ⟨#[]⟩, []⟩
def itm (s : ByteArray) : S58 := ⟨0, s, []⟩
def steps : Nat → List S49 → List S58
  | _, [] => []
  | lev, x :: t => List.replicate (x.f1.toNat - lev) ind ++ (List.replicate (lev - x.f1.toNat) uni ++ itm x.f0 :: steps x.f1.toNat t)
theorem down_loop (l : List S49) (len i : Int) (s : ByteArray) (t : Nat) (r : List S58) : ∀ (n lev : Nat) (out : List S58), lev = t + n → out.length + n ≤ 1000000 → lev ≤ 1000000 →
    Ev (fun k => spec_LsSteps.l0 k (out ++ List.replicate n uni ++ [itm s]) (t : Int) l len (wrap64 (i + 1))) r → Ev (fun k => spec_LsSteps.l2 k out (lev : Int) l len i s (t : Int)) r := by
  intro n
  induction n with
  | zero =>
    intro lev out hl ho hb h
    subst hl
    refine Ev.step (fun k => ?_) h
    simp only [spec_LsSteps.l2]
    rw [if_neg (by omega), if_pos (by omega)]
    simp [itm]
  | succ n ih =>
    intro lev out hl ho hb h
    refine Ev.step (fun k => ?_) (ih (lev - 1) (out ++ [uni]) (by omega) (by simp; omega) (by omega) (by
      rw [List.append_assoc out [uni], List.singleton_append, ← List.replicate_succ]; exact h))
    simp only [spec_LsSteps.l2]
    rw [if_pos (by omega), if_pos (by omega), w64 _ (by omega) (by omega), show ((lev : Int) - 1) = ((lev - 1 : Nat) : Int) by omega]
    rfl
theorem up_loop (l : List S49) (len i : Int) (s : ByteArray) (t : Nat) (r : List S58) : ∀ (n lev : Nat) (out : List S58), t = lev + n → out.length + n ≤ 1000000 → t ≤ 1000000 →
    Ev (fun k => spec_LsSteps.l2 k (out ++ List.replicate n ind) (t : Int) l len i s (t : Int)) r → Ev (fun k => spec_LsSteps.l1 k out (lev : Int) l len i s (t : Int)) r := by
  intro n
  induction n with
  | zero =>
    intro lev out hl ho hb h
    obtain rfl : lev = t := by omega
    refine Ev.step (fun k => ?_) h
    simp only [spec_LsSteps.l1]
    rw [if_neg (by omega)]
    simp
  | succ n ih =>
    intro lev out hl ho hb h
    refine Ev.step (fun k => ?_) (ih (lev + 1) (out ++ [ind]) (by omega) (by simp; omega) (by omega) (by
      rw [List.append_assoc out [ind], List.singleton_append, ← List.replicate_succ]; exact h))
    simp only [spec_LsSteps.l1]
    rw [if_pos (by omega), if_pos (by omega), w64 _ (by omega) (by omega)]
    rfl
def pv : Option Nat → Nat
  | none => 0
  | some m => m + 1
theorem okL_cons {p : Option Nat} {x : S49} {t : List S49} (h : okL p (x :: t)) : 0 ≤ x.f1 ∧ x.f1.toNat ≤ pv p ∧ x.f0.size ≤ 200 ∧ LstN.simple x.f0 false = true ∧ okL (some x.f1.toNat) t := by
  unfold okL at h
  cases p <;> exact h
theorem wi (i : Nat) (h : i ≤ 1000) : wrap64 ((i : Int) + 1) = ((i + 1 : Nat) : Int) := by rw [w64 _ (by omega) (by omega)]; omega
theorem steps_loop (l : List S49) (hl : l.length ≤ 60) : ∀ (d i lev : Nat) (p : Option Nat) (out : List S58), i + d = l.length → out.length ≤ 200 * i → lev ≤ i → okL p (l.drop i) → pv p ≤ lev + 1 →
    Ev (fun k => spec_LsSteps.l0 k out (lev : Int) l (l.length : Int) (i : Int)) (out ++ steps lev (l.drop i)) := by
  intro d
  induction d with
  | zero =>
    intro i lev p out hi ho hlev hok hp
    rw [List.drop_eq_nil_of_le (by omega)]
    refine Ev.step (f := fun _ => some out) (fun k => by simp only [spec_LsSteps.l0]; rw [if_neg (by omega)]) ?_
    simp only [steps, List.append_nil]
    exact Ev.now out
  | succ d ih =>
    intro i lev p out hi ho hlev hok hp
    have hlt : i < l.length := by omega
    rw [g_drop l i hlt] at hok ⊢
    obtain ⟨h0, h1, h2, h3, h4⟩ := okL_cons hok
    have hf : (g l i).f1 = (((g l i).f1.toNat : Nat) : Int) := by omega
    refine Ev.step (f := fun k => spec_LsSteps.l1 k out (lev : Int) l (l.length : Int) (i : Int) (g l i).f0 (((g l i).f1.toNat : Nat) : Int)) (fun k => ?_) ?_
    · simp only [spec_LsSteps.l0]
      rw [if_pos (by omega), if_pos (by omega), if_pos (by omega), ← hf]
      rfl
    · rw [steps]
      obtain ⟨t, ht⟩ : ∃ t, t = (g l i).f1.toNat := ⟨_, rfl⟩
      rw [← ht] at h1 h4 ⊢
      have hnext := fun out' ho' => ih (i + 1) t (some t) out' (by omega) ho' (by omega) h4 (by simp [pv])
      have hw := wi i (by omega)
      have ht2 : t ≤ lev + 1 := Nat.le_trans h1 hp
      have hln : l.length = i + (d + 1) := hi.symm
      clear hok h0 h2 h3 h4 hf ht h1 hp ih
      rcases Nat.lt_or_ge t lev with hc | hc
      · refine Ev.step (f := fun k => spec_LsSteps.l2 k out (lev : Int) l (l.length : Int) (i : Int) (g l i).f0 ((t : Nat) : Int)) (fun k => by simp only [spec_LsSteps.l1]; rw [if_neg (by omega)]) ?_
        refine down_loop l _ _ _ t _ (lev - t) lev out (by omega) (by omega) (by omega) ?_
        rw [hw, show t - lev = 0 by omega, List.replicate_zero, List.nil_append]
        have := hnext (out ++ List.replicate (lev - t) uni ++ [itm (g l i).f0]) (by simp; omega)
        simpa [List.append_assoc] using this
      · refine up_loop l _ _ _ t _ (t - lev) lev out (by omega) (by omega) (by omega) ?_
        refine down_loop l _ _ _ t _ 0 t _ (by omega) (by simp; omega) (by omega) ?_
        rw [hw, show lev - t = 0 by omega, List.replicate_zero, List.nil_append]
        have := hnext (out ++ List.replicate (t - lev) ind ++ [itm (g l i).f0]) (by simp; omega)
        simpa [List.append_assoc] using this
theorem steps_ev (l : List S49) (hl : l.length ≤ 60) (hok : okL none l) : Ev (fun k => spec_LsSteps.f k l) (steps 0 l) := by
  have h := steps_loop l hl l.length 0 0 none [] (by omega) (by simp) (by omega) (by simpa using hok) (by simp [pv])
  rw [List.drop_zero, List.nil_append] at h
  exact Ev.congr (fun k => rfl) h
theorem steps_len (l : List S49) : ∀ (lev : Nat) (p : Option Nat), okL p l → pv p ≤ lev + 1 → lev + l.length ≤ 100 → (steps lev l).length ≤ 150 * l.length := by
  induction l with
  | nil => intro lev p _ _ _; simp [steps]
  | cons x t ih =>
    intro lev p hok hp hb
    obtain ⟨h0, h1, h2, h3, h4⟩ := okL_cons hok
    simp only [List.length_cons] at hb ⊢
    have := ih x.f1.toNat (some x.f1.toNat) h4 (by simp [pv]) (by omega)
    simp only [steps, List.length_append, List.length_replicate, List.length_cons]
    omega
/-! ### what a writer makes of them -/
theorem run_append (a b : List S58) (st : St) : run (a ++ b) st = (run a st).bind (run b) := by
  induction a generalizing st with
  | nil => rfl
  | cons x t ih =>
    rw [List.cons_append, run, run]
    cases stepF x st with
    | none => rfl
    | some st2 => exact ih st2
theorem run_uni (n : Nat) (its : List (Nat × ByteArray)) (lev : Nat) : run (List.replicate n uni) (its, lev) = some (its, lev - n) := by
  induction n generalizing lev with
  | zero => rfl
  | succ n ih =>
    rw [List.replicate_succ, run]
    have : stepF uni (its, lev) = some (its, lev - 1) := rfl
    rw [this, Option.bind_some, ih]
    congr 2
    omega
theorem good_of (s : ByteArray) (h : s.size ≤ 200) (hs : LstN.simple s false = true) : good s := ⟨by omega, LstN.simple_good s hs⟩
theorem run_itm (s : ByteArray) (h : good s) (its : List (Nat × ByteArray)) (lev : Nat) (r : List S58) : run (itm s :: r) (its, lev) = run r (its ++ [(lev, s)], lev) := by
  rw [run]
  have : stepF (itm s) (its, lev) = some (its ++ [(lev, s)], lev) := by
    unfold stepF itm
    rw [if_pos rfl, if_pos h]
  rw [this, Option.bind_some]
def it (x : S49) : Nat × ByteArray := (x.f1.toNat, x.f0)
theorem run_steps (l : List S49) : ∀ (its : List (Nat × ByteArray)) (lev : Nat) (p : Option Nat), okL p l → (p = none ∧ lev = 0) ∨ (p = some lev ∧ ∃ s, its.getLast? = some (lev, s)) → ∃ lev', run (steps lev l) (its, lev) = some (its ++ l.map it, lev') := by
  induction l with
  | nil => intro its lev p _ _; exact ⟨lev, by simp [steps, run]⟩
  | cons x t ih =>
    intro its lev p hok hp
    obtain ⟨h0, h1, h2, h3, h4⟩ := okL_cons hok
    have hg := good_of x.f0 h2 h3
    obtain ⟨lev', hr⟩ := ih (its ++ [(x.f1.toNat, x.f0)]) x.f1.toNat (some x.f1.toNat) h4 (.inr ⟨rfl, x.f0, by simp⟩)
    refine ⟨lev', ?_⟩
    rw [steps, run_append]
    have hup : run (List.replicate (x.f1.toNat - lev) ind) (its, lev) = some (its, max lev x.f1.toNat) := by
      rcases hp with ⟨rfl, rfl⟩ | ⟨rfl, s, hs⟩
      · simp only [pv] at h1
        rw [show x.f1.toNat - 0 = 0 by omega, List.replicate_zero, Nat.max_eq_left (by omega)]
        rfl
      · simp only [pv] at h1
        rcases Nat.lt_or_ge lev x.f1.toNat with hc | hc
        · rw [show x.f1.toNat - lev = 1 by omega, List.replicate_one]
          show (stepF ind (its, lev)).bind (run []) = _
          have : stepF ind (its, lev) = some (its, lev + 1) := by
            show some (its, indentF its lev) = _
            unfold indentF
            rw [hs]
            simp
          rw [this, show max lev x.f1.toNat = lev + 1 by omega]
          rfl
        · rw [show x.f1.toNat - lev = 0 by omega, List.replicate_zero, Nat.max_eq_left hc]
          rfl
    rw [hup, Option.bind_some, run_append, run_uni, Option.bind_some, run_itm _ hg, show max lev x.f1.toNat - (lev - x.f1.toNat) = x.f1.toNat by omega, hr]
    simp [it]
theorem levels (l : List S49) : ∀ (p : Option Nat), okL p l → ∀ x ∈ l, x.f1.toNat ≤ pv p + l.length ∧ good x.f0 := by
  induction l with
  | nil => intro p _ x hx; cases hx
  | cons y t ih =>
    intro p hok x hx
    obtain ⟨h0, h1, h2, h3, h4⟩ := okL_cons hok
    rcases List.mem_cons.1 hx with rfl | hx
    · exact ⟨by omega, good_of _ h2 h3⟩
    · have := ih _ h4 x hx
      have h5 : pv (some y.f1.toNat) = y.f1.toNat + 1 := rfl
      rw [h5] at this
      simp only [List.length_cons]
      exact ⟨by omega, this.2⟩
end Go.Proofs.Ytphnnbbgcnilgaa.LstQ

namespace Go.Proofs.Ytphnnbbgcnilgaa.HtE
open Go.RowKit Go.Proofs.YtphnnbbgcnilgaaW.PrintWords Go.Proofs.Ytphnnbbgcnilgaa.Common Go.Proofs.Ytphnnbbgcnilgaa.GFnListHTML Go.Proofs.Ytphnnbbgcnilgaa.GivenHtml Go.Proofs.Ytphnnbbgcnilgaa.ItoaAll Go.Proofs.Ytphnnbbgcnilgaa.HtA Go.Proofs.Ytphnnbbgcnilgaa.HtD Go.Proofs.Ytphnnbbgcnilgaa.LstP Go.Proofs.Ytphnnbbgcnilgaa.LstQ
set_option linter.unusedVariables false
set_option linter.unusedSimpArgs false

theorem ofL_size (l : List UInt8) : (ofL l).size = l.length := by rw [← size_l, ofL_data]
theorem ofL_app (a b : List UInt8) : ofL a ++ ofL b = ofL (a ++ b) := by apply WideShapes.bytes_inj; simp [ofL]
theorem digit_str (x : Int) (d : Nat) (hd : d < 10) (hx : x = 48 + (d : Int)) : strOfNums ([(wrap64 x) % 256] : List Int) = ofL [UInt8.ofNat (48 + d)] := by
  have e : (wrap64 x) % 256 = ((48 + d : Nat) : Int) := by rw [w64 _ (by omega) (by omega), hx]; omega
  rw [e]
  unfold strOfNums ofL
  rw [List.map_cons, List.map_nil, Int.toNat_natCast]
theorem dec_big (u : Nat) (h : ¬ u < 10) : Lib.decDigits u = Lib.decDigits (u / 10) ++ [UInt8.ofNat (48 + u % 10)] := by rw [Lib.decDigits, dif_neg h]
theorem decimal_e (m : Nat) : ∀ n : Int, n.natAbs ≤ m → -9223372036854775808 ≤ n → n ≤ 9223372036854775807 → Ev (fun k => spec_Decimal.f k n) (ofL (itoaL n)) := by
  induction m using Nat.strongRecOn with
  | _ m ih =>
    intro n hm h0 h1
    have hlen := itoaL_len n h0 h1
    by_cases hn : n < 0
    · have hi : itoaL n = 45 :: Lib.decDigits n.natAbs := by rw [itoaL, if_pos hn]
      by_cases h10 : n > -10
      · refine Ev.step (f := fun _ => some (ofL (itoaL n))) (fun k => ?_) (Ev.now _)
        simp only [spec_Decimal.f]
        rw [if_pos hn, if_pos h10]
        simp only [Option.bind_some]
        rw [digit_str (48 - n) n.natAbs (by omega) (by omega), if_pos (by rw [ofL_size]; simp), show (⟨#[45]⟩ : ByteArray) = ofL [45] from rfl, ofL_app, hi, Lib.decDigits_one (by omega)]
        rfl
      · have hq : wrap64 (Int.tdiv n 10) = -((n.natAbs / 10 : Nat) : Int) := by
          have e : Int.tdiv n 10 = -((n.natAbs / 10 : Nat) : Int) := by
            obtain ⟨u, rfl⟩ : ∃ u : Nat, n = -(u : Int) := ⟨n.natAbs, by omega⟩
            rw [Int.neg_tdiv, Int.natAbs_neg, Int.natAbs_natCast]
            rfl
          rw [e, w64 _ (by omega) (by omega)]
        have hr : 48 - Int.tmod n 10 = 48 + ((n.natAbs % 10 : Nat) : Int) := by
          obtain ⟨u, rfl⟩ : ∃ u : Nat, n = -(u : Int) := ⟨n.natAbs, by omega⟩
          rw [Int.neg_tmod, Int.natAbs_neg, Int.natAbs_natCast, show Int.tmod (u : Int) 10 = ((u % 10 : Nat) : Int) from rfl]
          omega
        have hrec := ih (n.natAbs / 10) (by omega) (-((n.natAbs / 10 : Nat) : Int)) (by omega) (by omega) (by omega)
        have hl2 := itoaL_len (-((n.natAbs / 10 : Nat) : Int)) (by omega) (by omega)
        refine Ev.step (f := fun k => (spec_Decimal.f k (-((n.natAbs / 10 : Nat) : Int))).bind fun t => if t.size + (ofL [UInt8.ofNat (48 + n.natAbs % 10)]).size ≤ 9223372036854775807 then some (t ++ ofL [UInt8.ofNat (48 + n.natAbs % 10)]) else none) (fun k => by simp only [spec_Decimal.f]; rw [if_pos hn, if_neg h10, hr, hq]; simp only [Option.bind_some]; rw [digit_str _ (n.natAbs % 10) (by omega) rfl]) (Ev.bind hrec ⟨0, fun k _ => ?_⟩)
        have hz : (ofL (itoaL (-((n.natAbs / 10 : Nat) : Int)))).size + (ofL [UInt8.ofNat (48 + n.natAbs % 10)]).size ≤ 9223372036854775807 := by
          rw [ofL_size, ofL_size, List.length_singleton]; omega
        have hj : itoaL (-((n.natAbs / 10 : Nat) : Int)) = 45 :: Lib.decDigits (n.natAbs / 10) := by
          rw [itoaL, if_pos (by omega), Int.natAbs_neg, Int.natAbs_natCast]
        dsimp only
        rw [if_pos hz, ofL_app, hj, hi, dec_big n.natAbs (by omega)]
        rfl
    · have hi : itoaL n = Lib.decDigits n.natAbs := by rw [itoaL, if_neg hn]
      by_cases h10 : n < 10
      · refine Ev.step (f := fun _ => some (ofL (itoaL n))) (fun k => ?_) (Ev.now _)
        simp only [spec_Decimal.f]
        rw [if_neg hn, if_pos h10, digit_str (48 + n) n.natAbs (by omega) (by omega), hi, Lib.decDigits_one (by omega)]
      · obtain ⟨u, rfl⟩ : ∃ u : Nat, n = (u : Int) := ⟨n.natAbs, by omega⟩
        rw [Int.natAbs_natCast] at hi hm
        have hq : wrap64 (Int.tdiv (u : Int) 10) = ((u / 10 : Nat) : Int) := by
          rw [show Int.tdiv (u : Int) 10 = ((u / 10 : Nat) : Int) from rfl, w64 _ (by omega) (by omega)]
        have hr : 48 + Int.tmod (u : Int) 10 = 48 + ((u % 10 : Nat) : Int) := rfl
        have hrec := ih (u / 10) (by omega) ((u / 10 : Nat) : Int) (by omega) (by omega) (by omega)
        have hl2 := itoaL_len ((u / 10 : Nat) : Int) (by omega) (by omega)
        refine Ev.step (f := fun k => (spec_Decimal.f k ((u / 10 : Nat) : Int)).bind fun t => if t.size + (ofL [UInt8.ofNat (48 + u % 10)]).size ≤ 9223372036854775807 then some (t ++ ofL [UInt8.ofNat (48 + u % 10)]) else none) (fun k => by simp only [spec_Decimal.f]; rw [if_neg hn, if_neg h10, hr, hq]; simp only [Option.bind_some]; rw [digit_str _ (u % 10) (by omega) rfl]) (Ev.bind hrec ⟨0, fun k _ => ?_⟩)
        have hz : (ofL (itoaL ((u / 10 : Nat) : Int))).size + (ofL [UInt8.ofNat (48 + u % 10)]).size ≤ 9223372036854775807 := by
          rw [ofL_size, ofL_size, List.length_singleton]; omega
        have hj : itoaL ((u / 10 : Nat) : Int) = Lib.decDigits (u / 10) := by
          rw [itoaL, if_neg (by omega), Int.natAbs_natCast]
        dsimp only
        rw [if_pos hz, ofL_app, hj, hi, dec_big u (by omega)]
/-! ### separated -/
/-! ### names -/
theorem tight_some (s : ByteArray) (hs : s.size ≤ 1000000) : ∃ b, spec_TxTight.f s = some b := by
  unfold spec_TxTight.f
  by_cases h0 : s.toList = ([] : List UInt8)
  · exact ⟨false, by rw [if_pos h0]⟩
  · rw [if_neg h0]
    have hpos : 0 < s.size := by
      rw [tl] at h0
      have := List.length_pos_iff.2 h0
      rwa [size_l] at this
    rw [if_pos (by omega)]
    by_cases h1 : bt s 0 = 32
    · exact ⟨false, by rw [if_pos h1]⟩
    · rw [if_neg h1, w64 _ (by omega) (by omega), if_pos (by omega), if_pos (by omega)]
      exact ⟨_, rfl⟩
def isN (c : Int) : Prop := (97 ≤ c ∧ c ≤ 122) ∨ (65 ≤ c ∧ c ≤ 90) ∨ (48 ≤ c ∧ c ≤ 57) ∨ c = 32
instance (c : Int) : Decidable (isN c) := by unfold isN; infer_instance
theorem name_loop (s : ByteArray) (hs : s.size ≤ 1000000) : ∀ d i : Nat, i + d = s.size → ∃ b, Ev (fun k => spec_LsName.l0 k s (i : Int)) b ∧ (b = true → ∀ j : Nat, i ≤ j → j < s.size → isN (bt s (j : Int))) := by
  intro d
  induction d with
  | zero =>
    intro i hi
    obtain ⟨b, hb⟩ := tight_some s hs
    refine ⟨b, Ev.step (f := fun _ => some b) (fun k => ?_) (Ev.now b), fun _ j h1 h2 => by omega⟩
    simp only [spec_LsName.l0]
    rw [if_neg (by omega), hb]
    rfl
  | succ d ih =>
    intro i hi
    obtain ⟨b, hb, hr⟩ := ih (i + 1) (by omega)
    have hw : wrap64 ((i : Int) + 1) = ((i + 1 : Nat) : Int) := by rw [w64 _ (by omega) (by omega)]; rfl
    have hstep : ∀ k, spec_LsName.l0 (k + 1) s (i : Int) = if isN (bt s (i : Int)) then spec_LsName.l0 k s ((i + 1 : Nat) : Int) else some false := fun k => by
      simp only [spec_LsName.l0]
      rw [if_pos (by omega), if_pos (by omega), hw]
      generalize bt s (i : Int) = c
      by_cases hc : isN c
      · rw [if_pos hc]
        unfold isN at hc
        repeat' split
        all_goals first | rfl | (exfalso; omega)
      · rw [if_neg hc]
        unfold isN at hc
        repeat' split
        all_goals first | rfl | (exfalso; omega)
    by_cases hc : isN (bt s (i : Int))
    · refine ⟨b, Ev.step (fun k => by rw [hstep, if_pos hc]) hb, fun h j h1 h2 => ?_⟩
      rcases Nat.eq_or_lt_of_le h1 with rfl | h1
      · exact hc
      · exact hr h j (by omega) h2
    · exact ⟨false, Ev.step (f := fun _ => some false) (fun k => by rw [hstep, if_neg hc]) (Ev.now false), fun h => by cases h⟩
theorem name_ev (s : ByteArray) (hs : s.size ≤ 1000) : ∃ b, Ev (fun k => spec_LsName.f k s) b ∧ (b = true → nameS s) := by
  obtain ⟨b, hb, hr⟩ := name_loop s (by omega) s.size 0 (by omega)
  refine ⟨b, Ev.congr (fun k => rfl) hb, fun h => ⟨hs, fun c hc => ?_⟩⟩
  obtain ⟨j, hj, rfl⟩ := List.getElem_of_mem hc
  have hj2 : j < s.size := by rwa [size_l] at hj
  have := hr h j (by omega) hj2
  rw [bt_get s j hj2] at this
  unfold isN at this
  generalize s.data.toList[j] = c at this
  refine ⟨?_, ?_, ?_, ?_, ?_, ?_⟩ <;> (rintro rfl; revert this; decide)
theorem names_ev (l : List S49) (hl : l.length ≤ 1000) (hs : ∀ x ∈ l, x.f0.size ≤ 1000) : ∃ b, Ev (fun k => spec_LsNames.f k l) b ∧ (b = true → ∀ x ∈ l, nameS x.f0) := by
  have go : ∀ d i : Nat, i + d = l.length → ∃ b, Ev (fun k => spec_LsNames.l0 k l (l.length : Int) (i : Int)) b ∧ (b = true → ∀ x ∈ l.drop i, nameS x.f0) := by
    intro d
    induction d with
    | zero =>
      intro i hi
      exact ⟨true, Ev.step (f := fun _ => some true) (fun k => by simp only [spec_LsNames.l0]; rw [if_neg (by omega)]) (Ev.now true), fun _ x hx => by rw [List.drop_eq_nil_of_le (by omega)] at hx; cases hx⟩
    | succ d ih =>
      intro i hi
      have hlt : i < l.length := by omega
      have hg : rd_T49 l (i : Int) = l[i] := by simp [rd_T49, List.getD_eq_getElem?_getD, List.getElem?_eq_getElem hlt]
      obtain ⟨b1, h1, r1⟩ := name_ev l[i].f0 (hs _ (List.getElem_mem hlt))
      obtain ⟨b2, h2, r2⟩ := ih (i + 1) (by omega)
      have hstep : ∀ k, spec_LsNames.l0 (k + 1) l (l.length : Int) (i : Int) = (spec_LsName.f k l[i].f0).bind fun t => if t = true then spec_LsNames.l0 k l (l.length : Int) ((i + 1 : Nat) : Int) else some false := fun k => by
        simp only [spec_LsNames.l0]
        rw [if_pos (by omega), if_pos (by omega), if_pos (by omega), hg, w64 ((i : Int) + 1) (by omega) (by omega)]
        rfl
      cases b1 with
      | false => exact ⟨false, Ev.step hstep (Ev.bind h1 (Ev.congr (fun k => if_neg (by decide)) (Ev.now false))), fun h => by cases h⟩
      | true =>
        refine ⟨b2, Ev.step hstep (Ev.bind h1 (Ev.congr (fun k => if_pos rfl) h2)), fun h x hx => ?_⟩
        rw [List.drop_eq_getElem_cons hlt] at hx
        rcases List.mem_cons.1 hx with rfl | hx
        · exact r1 rfl
        · exact r2 h x hx
  obtain ⟨b, hb, hr⟩ := go l.length 0 (by omega)
  exact ⟨b, Ev.congr (fun k => rfl) hb, fun h => by have := hr h; rwa [List.drop_zero] at this⟩
/-! ### lines -/
theorem times_pre (n : Nat) (hn : n ≤ 1000) : spec_TxTimes.f (⟨#[32, 32]⟩ : ByteArray) (n : Int) = some (ofL (pre n)) := by
  unfold spec_TxTimes.f
  rw [if_pos ⟨by show 2 ≤ 1000; omega, by omega, by omega⟩, Int.toNat_natCast]
  rfl
theorem dnE (acc : List UInt8) (n : Nat) : ofL acc ++ (((⟨#[10]⟩ : ByteArray) ++ ofL (pre n)) ++ (⟨#[60, 47, 117, 108, 62]⟩ : ByteArray)) = ofL (acc ++ dnS n) := by apply WideShapes.bytes_inj; simp [ofL, dnS]
theorem liE (acc : List UInt8) (n : Nat) (s : ByteArray) : ofL acc ++ (((((⟨#[10]⟩ : ByteArray) ++ ofL (pre (n + 1))) ++ (⟨#[60, 108, 105, 62]⟩ : ByteArray)) ++ s) ++ (⟨#[60, 47, 108, 105, 62]⟩ : ByteArray)) = ofL (acc ++ liS n s) := by apply WideShapes.bytes_inj; simp [ofL, liS]
theorem upE (acc : List UInt8) (n : Nat) (cl : ByteArray) : ofL acc ++ (((((((⟨#[10]⟩ : ByteArray) ++ ofL (pre n)) ++ (⟨#[60, 117, 108, 32, 99, 108, 97, 115, 115, 61, 34]⟩ : ByteArray)) ++ cl) ++ (⟨#[45]⟩ : ByteArray)) ++ ofL (itoaL (n : Int))) ++ (⟨#[34, 62]⟩ : ByteArray)) = ofL (acc ++ upS cl n) := by apply WideShapes.bytes_inj; simp [ofL, upS]
theorem z10 : (⟨#[10]⟩ : ByteArray).size = 1 := rfl
theorem z45 : (⟨#[45]⟩ : ByteArray).size = 1 := rfl
theorem zul : (⟨#[60, 47, 117, 108, 62]⟩ : ByteArray).size = 5 := rfl
theorem zli : (⟨#[60, 108, 105, 62]⟩ : ByteArray).size = 4 := rfl
theorem zil : (⟨#[60, 47, 108, 105, 62]⟩ : ByteArray).size = 5 := rfl
theorem zop : (⟨#[60, 117, 108, 32, 99, 108, 97, 115, 115, 61, 34]⟩ : ByteArray).size = 11 := rfl
theorem zgt : (⟨#[34, 62]⟩ : ByteArray).size = 2 := rfl
theorem pre_sz (n : Nat) : (ofL (pre n)).size = 2 * n := by rw [ofL_size, pre_len]
theorem dnS_len (n : Nat) : (dnS n).length = 6 + 2 * n := by unfold dnS; simp [pre_len]; omega
theorem l3_ev : ∀ (cur : Nat) (acc : List UInt8), cur ≤ 500 → acc.length + (dns cur cur).length ≤ 1000000000000 → Ev (fun k => spec_LsHTML.l3 k (ofL acc) (cur : Int)) (ofL (acc ++ (dns cur cur ++ [10, 60, 47, 117, 108, 62]))) := by
  intro cur
  induction cur with
  | zero =>
    intro acc _ hb
    refine Ev.step (f := fun _ => some (ofL (acc ++ (dns 0 0 ++ [10, 60, 47, 117, 108, 62])))) (fun k => ?_) (Ev.now _)
    simp only [spec_LsHTML.l3]
    rw [if_neg (by omega), if_pos (by rw [ofL_size]; omega)]
    congr 1
    try (apply WideShapes.bytes_inj; simp [ofL, dns])
  | succ cur ih =>
    intro acc hc hb
    rw [dns, List.length_append, dnS_len, Nat.add_sub_cancel] at hb
    have h := ih (acc ++ dnS (cur + 1)) (by omega) (by rw [List.length_append, dnS_len]; omega)
    rw [dns, Nat.add_sub_cancel, List.append_assoc (dnS (cur + 1)), ← List.append_assoc acc]
    refine Ev.step (fun k => ?_) h
    simp only [spec_LsHTML.l3]
    rw [if_pos (by omega), times_pre (cur + 1) (by omega), Option.bind_some, if_pos (by rw [pre_sz]; omega), if_pos (by rw [ByteArray.size_append, z10, pre_sz]; omega), if_pos (by rw [ByteArray.size_append, ByteArray.size_append, z10, pre_sz, zul, ofL_size]; omega), dnE, w64 _ (by omega) (by omega), show (((cur + 1 : Nat) : Int) - 1) = ((cur : Nat) : Int) by omega]
section
variable (cl : ByteArray) (l : List S49) (len i : Int) (s : ByteArray) (t : Nat)
theorem l2_ev (hs : s.size ≤ 1000) (ht : t ≤ 400) (r : ByteArray) : ∀ (n cur : Nat) (acc : List UInt8), cur = t + n → cur ≤ 500 → acc.length + (dns cur n).length + (liS t s).length ≤ 1000000000000 →
    Ev (fun k => spec_LsHTML.l0 k cl (ofL (acc ++ dns cur n ++ liS t s)) (t : Int) l len (wrap64 (i + 1))) r → Ev (fun k => spec_LsHTML.l2 k cl (ofL acc) (cur : Int) l len i s (t : Int)) r := by
  intro n
  induction n with
  | zero =>
    intro cur acc hc h5 hb h
    obtain rfl : cur = t := by omega
    rw [dns, List.append_nil] at h
    refine Ev.step (fun k => ?_) h
    simp only [spec_LsHTML.l2]
    rw [if_neg (by omega), w64 ((cur : Int) + 1) (by omega) (by omega), show ((cur : Int) + 1) = ((cur + 1 : Nat) : Int) by omega, times_pre (cur + 1) (by omega), Option.bind_some, if_pos (by rw [pre_sz]; omega), if_pos (by rw [ByteArray.size_append, z10, pre_sz]; omega), if_pos (by rw [ByteArray.size_append, ByteArray.size_append, z10, pre_sz, zli]; omega), if_pos (by rw [ByteArray.size_append, ByteArray.size_append, ByteArray.size_append, z10, pre_sz, zli]; omega), if_pos (by rw [ByteArray.size_append, ByteArray.size_append, ByteArray.size_append, ByteArray.size_append, z10, pre_sz, zli, zil, ofL_size]; omega), liE]
  | succ n ih =>
    intro cur acc hc h5 hb h
    obtain ⟨c, rfl⟩ : ∃ c, cur = c + 1 := ⟨cur - 1, by omega⟩
    rw [dns, List.length_append, dnS_len, Nat.add_sub_cancel] at hb
    rw [dns, Nat.add_sub_cancel, ← List.append_assoc acc] at h
    refine Ev.step (fun k => ?_) (ih c (acc ++ dnS (c + 1)) (by omega) (by omega) (by rw [List.length_append, dnS_len]; omega) h)
    simp only [spec_LsHTML.l2]
    rw [if_pos (by omega), times_pre (c + 1) (by omega), Option.bind_some, if_pos (by rw [pre_sz]; omega), if_pos (by rw [ByteArray.size_append, z10, pre_sz]; omega), if_pos (by rw [ByteArray.size_append, ByteArray.size_append, z10, pre_sz, zul, ofL_size]; omega), dnE, w64 _ (by omega) (by omega), show (((c + 1 : Nat) : Int) - 1) = ((c : Nat) : Int) by omega]
set_option maxHeartbeats 4000000 in
theorem l1_ev (hcl : cl.size ≤ 1000) (ht : t ≤ 400) (r : ByteArray) : ∀ (n cur : Nat) (acc : List UInt8), t = cur + n → acc.length + (ups cl cur n).length ≤ 1000000000000 →
    Ev (fun k => spec_LsHTML.l2 k cl (ofL (acc ++ ups cl cur n)) (t : Int) l len i s (t : Int)) r → Ev (fun k => spec_LsHTML.l1 k cl (ofL acc) (cur : Int) l len i s (t : Int)) r := by
  intro n
  induction n with
  | zero =>
    intro cur acc hc hb h
    obtain rfl : t = cur := by omega
    rw [ups, List.append_nil] at h
    exact Ev.step (fun k => by simp only [spec_LsHTML.l1]; rw [if_neg (by omega)]) h
  | succ n ih =>
    intro cur acc hc hb h
    have hil := itoaL_len ((cur + 1 : Nat) : Int) (by omega) (by omega)
    rw [ups, List.length_append] at hb
    rw [ups, ← List.append_assoc acc] at h
    obtain ⟨K1, e1⟩ := decimal_e (cur + 1) ((cur + 1 : Nat) : Int) (by omega) (by omega) (by omega)
    obtain ⟨K2, e2⟩ := ih (cur + 1) (acc ++ upS cl (cur + 1)) (by omega) (by rw [List.length_append]; omega) h
    refine ⟨K1 + K2 + 1, fun k hk => ?_⟩
    obtain ⟨k, rfl⟩ : ∃ m, k = m + 1 := ⟨k - 1, by omega⟩
    have g1 : spec_Decimal.f k ((cur + 1 : Nat) : Int) = some (ofL (itoaL ((cur + 1 : Nat) : Int))) := e1 k (by omega)
    have g2 := e2 k (by omega)
    show spec_LsHTML.l1 (k + 1) cl (ofL acc) (cur : Int) l len i s (t : Int) = some r
    simp only [spec_LsHTML.l1]
    rw [if_pos (by omega), w64 ((cur : Int) + 1) (by omega) (by omega), show ((cur : Int) + 1) = ((cur + 1 : Nat) : Int) by omega, times_pre (cur + 1) (by omega), Option.bind_some, if_pos (by rw [pre_sz]; omega), if_pos (by rw [ByteArray.size_append, z10, pre_sz]; omega), if_pos (by rw [ByteArray.size_append, ByteArray.size_append, z10, pre_sz, zop]; omega), if_pos (by rw [ByteArray.size_append, ByteArray.size_append, ByteArray.size_append, z10, pre_sz, zop]; omega), g1, Option.bind_some, if_pos (by rw [ByteArray.size_append, ByteArray.size_append, ByteArray.size_append, ByteArray.size_append, z10, pre_sz, zop, z45, ofL_size]; omega), if_pos (by rw [ByteArray.size_append, ByteArray.size_append, ByteArray.size_append, ByteArray.size_append, ByteArray.size_append, z10, pre_sz, zop, z45, ofL_size]; omega), if_pos (by rw [ByteArray.size_append, ByteArray.size_append, ByteArray.size_append, ByteArray.size_append, ByteArray.size_append, ByteArray.size_append, z10, pre_sz, zop, z45, zgt, ofL_size, ofL_size]; omega), upE]
    exact g2
end
theorem T_len (cl : ByteArray) (x : Nat × ByteArray) (t : List (Nat × ByteArray)) (cur : Nat) : (T cl cur (x :: t)).length = (ups cl cur (x.1 - cur)).length + (dns cur (cur - x.1)).length + (liS x.1 x.2).length + (T cl x.1 t).length := by
  rw [T]; simp only [List.length_append]
theorem l0_ev (cl : ByteArray) (hcl : cl.size ≤ 1000) (l : List S49) (hl : l.length ≤ 60) (hx : ∀ x ∈ l, 0 ≤ x.f1 ∧ x.f1.toNat ≤ 400 ∧ x.f0.size ≤ 1000) : ∀ (d i cur : Nat) (acc : List UInt8), i + d = l.length → cur ≤ 400 → acc.length + (T cl cur ((l.drop i).map it)).length ≤ 1000000000000 →
    Ev (fun k => spec_LsHTML.l0 k cl (ofL acc) (cur : Int) l (l.length : Int) (i : Int)) (ofL (acc ++ T cl cur ((l.drop i).map it))) := by
  intro d
  induction d with
  | zero =>
    intro i cur acc hi hc hb
    rw [List.drop_eq_nil_of_le (by omega), List.map_nil, T] at hb ⊢
    refine Ev.step (fun k => ?_) (l3_ev cur acc (by omega) (by rw [List.length_append] at hb; omega))
    simp only [spec_LsHTML.l0]
    rw [if_neg (by omega)]
  | succ d ih =>
    intro i cur acc hi hc hb
    have hlt : i < l.length := by omega
    have hg : rd_T49 l (i : Int) = l[i] := by simp [rd_T49, List.getD_eq_getElem?_getD, List.getElem?_eq_getElem hlt]
    obtain ⟨h0, h1, h2⟩ := hx _ (List.getElem_mem hlt)
    rw [List.drop_eq_getElem_cons hlt, List.map_cons] at hb ⊢
    obtain ⟨tn, htn⟩ : ∃ tn, tn = l[i].f1.toNat := ⟨_, rfl⟩
    have hfi : l[i].f1 = (tn : Int) := by omega
    have hit : it l[i] = (tn, l[i].f0) := by unfold it; rw [htn]
    rw [hit] at hb ⊢
    rw [T_len] at hb
    dsimp only at hb
    rw [T]
    dsimp only
    have HW := Aside0.mk (show wrap64 ((i : Int) + 1) = ((i + 1 : Nat) : Int) by rw [w64 _ (by omega) (by omega)]; rfl)
    have hnext := ih (i + 1) tn (acc ++ ups cl cur (tn - cur) ++ dns cur (cur - tn) ++ liS tn l[i].f0) (by omega) (by omega) (by simp only [List.length_append]; omega)
    refine Ev.step (f := fun k => spec_LsHTML.l1 k cl (ofL acc) (cur : Int) l (l.length : Int) (i : Int) l[i].f0 ((tn : Nat) : Int)) (fun k => ?_) ?_
    · simp only [spec_LsHTML.l0]
      rw [if_pos (by omega), if_pos (by omega), if_pos (by omega), hg, hfi]
    · have hfin : acc ++ (ups cl cur (tn - cur) ++ dns cur (cur - tn) ++ liS tn l[i].f0 ++ T cl tn ((l.drop (i + 1)).map it)) = acc ++ ups cl cur (tn - cur) ++ dns cur (cur - tn) ++ liS tn l[i].f0 ++ T cl tn ((l.drop (i + 1)).map it) := by simp
      rw [hfin]
      rcases Nat.lt_or_ge cur tn with hlt2 | hge
      · rw [show cur - tn = 0 by omega] at hnext hb ⊢
        refine l1_ev cl l _ _ _ tn hcl (by omega) _ (tn - cur) cur acc (by omega) (by omega) ?_
        refine l2_ev cl l _ _ _ tn (by omega) (by omega) _ 0 tn _ (by omega) (by omega) (by rw [List.length_append]; simp only [dns, List.length_nil]; omega) ?_
        rw [HW.out]
        simpa [dns] using hnext
      · rw [show tn - cur = 0 by omega] at hnext hb ⊢
        refine Ev.step (f := fun k => spec_LsHTML.l2 k cl (ofL acc) (cur : Int) l (l.length : Int) (i : Int) l[i].f0 ((tn : Nat) : Int)) (fun k => by simp only [spec_LsHTML.l1]; rw [if_neg (by omega)]) ?_
        refine l2_ev cl l _ _ _ tn (by omega) (by omega) _ (cur - tn) cur acc (by omega) (by omega) (by omega) ?_
        rw [HW.out]
        simpa [ups] using hnext
theorem html_ev (cl : ByteArray) (hcl : cl.size ≤ 1000) (l : List S49) (hl : l.length ≤ 60) (hx : ∀ x ∈ l, 0 ≤ x.f1 ∧ x.f1.toNat ≤ 400 ∧ x.f0.size ≤ 1000) (hb : (specL cl (l.map it)).length ≤ 1000000000000) : Ev (fun k => spec_LsHTML.f k l cl) (ofL (specL cl (l.map it))) := by
  have h := l0_ev cl hcl l hl hx l.length 0 0 ([60, 117, 108, 32, 99, 108, 97, 115, 115, 61, 34] ++ cl.data.toList ++ [34, 62]) (by omega) (by omega) (by rw [List.drop_zero]; unfold specL at hb; rw [List.length_append] at hb; exact hb)
  rw [List.drop_zero] at h
  refine Ev.congr (fun k => ?_) h
  unfold spec_LsHTML.f
  rw [if_pos (by omega), if_pos (by rw [ByteArray.size_append, zop]; omega)]
  have e : (⟨#[60, 117, 108, 32, 99, 108, 97, 115, 115, 61, 34]⟩ : ByteArray) ++ cl ++ (⟨#[34, 62]⟩ : ByteArray) = ofL ([60, 117, 108, 32, 99, 108, 97, 115, 115, 61, 34] ++ cl.data.toList ++ [34, 62]) := by apply WideShapes.bytes_inj; simp [ofL]
  rw [e]
  rfl
end Go.Proofs.Ytphnnbbgcnilgaa.HtE

namespace Go.Proofs.Ytphnnbbgcnilgaa.PureFnListHTML
set_option linter.unusedVariables false
open Go.RowKit Go.Proofs.YtphnnbbgcnilgaaW.PrintWords Go.Proofs.Ytphnnbbgcnilgaa.Common Go.Proofs.Ytphnnbbgcnilgaa.Read Go.Proofs.Ytphnnbbgcnilgaa.GFnListHTML Go.Proofs.Ytphnnbbgcnilgaa.GivenHtml Go.Proofs.Ytphnnbbgcnilgaa.ItoaAll Go.Proofs.Ytphnnbbgcnilgaa.LstJ Go.Proofs.Ytphnnbbgcnilgaa.HtA Go.Proofs.Ytphnnbbgcnilgaa.HtD Go.Proofs.Ytphnnbbgcnilgaa.HtE Go.Proofs.Ytphnnbbgcnilgaa.LstP Go.Proofs.Ytphnnbbgcnilgaa.LstQ

theorem upS_len (cl : ByteArray) (n : Nat) (hn : n ≤ 1000) : (upS cl n).length ≤ 2 * n + cl.size + 40 := by
  have := itoaL_len (n : Int) (by omega) (by omega)
  unfold upS
  simp only [List.length_append, List.length_cons, List.length_nil, pre_len, size_l]
  omega
theorem ups_len (cl : ByteArray) (hcl : cl.size ≤ 1000) : ∀ n cur : Nat, cur + n ≤ 100 → (ups cl cur n).length ≤ n * 2000 := by
  intro n
  induction n with
  | zero => intro cur _; simp [ups]
  | succ n ih =>
    intro cur h
    have h1 := upS_len cl (cur + 1) (by omega)
    have h2 := ih (cur + 1) (by omega)
    rw [ups, List.length_append, Nat.add_mul]
    omega
theorem dns_len : ∀ n cur : Nat, n ≤ cur → cur ≤ 100 → (dns cur n).length ≤ n * 1000 := by
  intro n
  induction n with
  | zero => intro cur _ _; simp [dns]
  | succ n ih =>
    intro cur h hc
    have h2 := ih (cur - 1) (by omega) (by omega)
    rw [dns, List.length_append, dnS_len, Nat.add_mul]
    omega
theorem T_bound (cl : ByteArray) (hcl : cl.size ≤ 1000) : ∀ (l : List (Nat × ByteArray)) (cur : Nat), (∀ x ∈ l, x.1 ≤ 100 ∧ x.2.size ≤ 1000) → cur ≤ 100 → (T cl cur l).length ≤ (l.length + 1) * 1000000 := by
  intro l
  induction l with
  | nil =>
    intro cur _ hc
    have := dns_len cur cur (Nat.le_refl _) hc
    rw [T, List.length_append]
    have h3 : cur * 1000 ≤ 100 * 1000 := Nat.mul_le_mul_right _ hc
    simp only [List.length_cons, List.length_nil]
    omega
  | cons x t ih =>
    intro cur hx hc
    obtain ⟨h1, h2⟩ := hx x (by simp)
    have h3 := ih x.1 (fun y hy => hx y (by simp [hy])) h1
    have h4 := ups_len cl hcl (x.1 - cur)
    have h5 := dns_len (cur - x.1) cur (by omega) hc
    have h6 : (ups cl cur (x.1 - cur)).length ≤ 100 * 2000 := by
      rcases Nat.le_total x.1 cur with h | h
      · rw [show x.1 - cur = 0 by omega]; simp [ups]
      · exact Nat.le_trans (h4 cur (by omega)) (Nat.mul_le_mul_right _ (by omega))
    have h7 : (cur - x.1) * 1000 ≤ 100 * 1000 := Nat.mul_le_mul_right _ (by omega)
    have h8 : (liS x.1 x.2).length ≤ 2000 := by
      unfold liS
      simp only [List.length_append, List.length_cons, List.length_nil, pre_len, size_l]
      omega
    rw [T_len]
    simp only [List.length_cons]
    rw [Nat.add_mul (t.length + 1)]
    omega
theorem chain_ok (l : List S49) : ∀ p : Option Nat, okL p l → chain (l.map it) = true := by
  induction l with
  | nil => intro p _; rfl
  | cons x t ih =>
    intro p h
    obtain ⟨_, _, _, _, h4⟩ := okL_cons h
    cases t with
    | nil => rfl
    | cons y u =>
      obtain ⟨_, g1, _⟩ := okL_cons h4
      have := ih _ h4
      simp only [List.map_cons] at this ⊢
      rw [chain, this, Bool.and_true]
      exact decide_eq_true g1
theorem okL_all (l : List S49) : ∀ (p : Option Nat), okL p l → ∀ x ∈ l, 0 ≤ x.f1 ∧ x.f0.size ≤ 200 := by
  induction l with
  | nil => intro p _ x hx; cases hx
  | cons z t ih =>
    intro p hok x hx
    obtain ⟨h0, h1, h2, h3, h4⟩ := okL_cons hok
    rcases List.mem_cons.1 hx with rfl | hx
    · exact ⟨h0, h2⟩
    · exact ih _ h4 x hx
theorem spec_bound (cl : ByteArray) (hcl : cl.size ≤ 1000) (l : List S49) (hl : l.length ≤ 60) (hx : ∀ x ∈ l, x.f1.toNat ≤ 100 ∧ x.f0.size ≤ 1000) : (specL cl (l.map it)).length ≤ 1000000000000 := by
  have h := T_bound cl hcl (l.map it) 0 (fun y hy => by
    obtain ⟨x, hx2, rfl⟩ := List.mem_map.1 hy
    exact hx x hx2) (by omega)
  rw [List.length_map] at h
  have h2 : (l.length + 1) * 1000000 ≤ 61 * 1000000 := Nat.mul_le_mul_right _ (by omega)
  unfold specL
  simp only [List.length_append, List.length_cons, List.length_nil, size_l]
  omega
theorem both (l : List S49) (hl : l.length ≤ 60) (hne : l.length ≠ 0) (hok : okL none l) (hnm : ∀ x ∈ l, nameS x.f0) (a : ByteArray) (hcl : nameS (clOf a)) :
    impl_ListHTML.f (steps 0 l) a = some (ofL (specL (clOf a) (l.map it))) ∧ Ev (fun k => spec_LsHTML.f k l (clOf a)) (ofL (specL (clOf a) (l.map it))) := by
  have hall := okL_all l none hok
  have hlev : ∀ x ∈ l, x.f1.toNat ≤ 100 := fun x hx => by
    have := (levels l none hok x hx).1
    rw [show pv none = 0 from rfl] at this
    omega
  have hb := spec_bound (clOf a) hcl.1 l hl (fun x hx => ⟨hlev x hx, by have := (hall x hx).2; omega⟩)
  refine ⟨?_, html_ev (clOf a) hcl.1 l hl (fun x hx => ⟨(hall x hx).1, by have := hlev x hx; omega, by have := (hall x hx).2; omega⟩) hb⟩
  obtain ⟨lev, h⟩ := run_steps l [] 0 none hok (.inl ⟨rfl, rfl⟩)
  have hs := steps_len l 0 none hok (by simp [pv]) (by omega)
  unfold impl_ListHTML.f htmlF
  rw [if_pos ⟨by omega, hcl⟩, h, Option.bind_some, List.nil_append, if_pos]
  refine ⟨by rw [List.length_map]; omega, fun e => hne (by have := congrArg List.length e; simpa using this), fun x hx => ?_, chain_ok l none hok, fun y hy => ?_, hb⟩
  · cases l with
    | nil => cases hx
    | cons z t =>
      obtain ⟨_, h1, _⟩ := okL_cons hok
      simp only [List.map_cons, List.head?_cons, Option.mem_def, Option.some.injEq] at hx
      rw [← hx]
      rw [show pv none = 0 from rfl] at h1
      show z.f1.toNat = 0
      omega
  · obtain ⟨x, hx, rfl⟩ := List.mem_map.1 hy
    exact ⟨by have := hlev x hx; show x.f1.toNat ≤ 1000; omega, hnm x hx⟩
section
variable (l : List S49) (a : ByteArray)
theorem j0_true : Ev (fun k => laws_FnListHTML.j0 k l a true) true := Ev.step (f := fun _ => some true) (fun k => by rw [laws_FnListHTML.j0]; rfl) (Ev.now true)
theorem j1_true : Ev (fun k => laws_FnListHTML.j1 k l a true) true := Ev.step (f := fun _ => some true) (fun k => by rw [laws_FnListHTML.j1]; rfl) (Ev.now true)
theorem j1_false (hl : l.length ≤ 60) (hne : l.length ≠ 0) (hok : okL none l) (hnm : ∀ x ∈ l, nameS x.f0) (hcl : nameS (clOf a)) : Ev (fun k => laws_FnListHTML.j1 k l a false) true := by
  obtain ⟨e1, K2, e2⟩ := both l hl hne hok hnm a hcl
  obtain ⟨K1, e0⟩ := steps_ev l hl hok
  refine ⟨K1 + K2 + 1, fun k hk => ?_⟩
  obtain ⟨k, rfl⟩ : ∃ m, k = m + 1 := ⟨k - 1, by omega⟩
  have g0 : spec_LsSteps.f k l = some (steps 0 l) := e0 k (by omega)
  have g2 : spec_LsHTML.f k l (clOf a) = some (ofL (specL (clOf a) (l.map it))) := e2 k (by omega)
  show laws_FnListHTML.j1 (k + 1) l a false = some true
  rw [laws_FnListHTML.j1, if_neg (by decide)]
  by_cases hz : a.toList = ([] : List UInt8)
  · have ha : a = ⟨#[]⟩ := by rw [tl] at hz; rw [← ofL_of a, hz]; rfl
    have hcd : clOf a = dcl := by rw [ha]; rfl
    rw [hcd] at g2 e1
    have g3 : spec_LsHTML.f k l (⟨#[103, 111, 45, 112, 114, 101, 116, 116, 121, 45, 116, 97, 98, 108, 101]⟩ : ByteArray) = some (ofL (specL dcl (l.map it))) := g2
    rw [if_pos hz, g0, Option.bind_some, e1, Option.bind_some, g3, Option.bind_some, beq_self_eq_true]
  · have hcd : clOf a = a := by unfold clOf; rw [if_neg (fun e => hz (by rw [e, tl]))]
    rw [hcd] at g2 e1
    rw [if_neg hz, g0, Option.bind_some, e1, Option.bind_some, g2, Option.bind_some, beq_self_eq_true]
end
theorem pure (l0 : List (S49)) (hg0 : (Goods (good49)) l0) (a1 : ByteArray) (w1 : a1.size ≤ maxLen) : ∃ k, laws_FnListHTML.f k l0 a1 = some true := by
  refine Ev.rounds (g := fun k => laws_FnListHTML.f k l0 a1) ?_
  obtain ⟨b0, e0, g0⟩ := fits l0
  refine Ev.congr (f := fun k => (laws_zzFits1.f k l0).bind fun t146 => (if t146 = true then (laws_FnListHTML.j0 k l0 a1 (decide ((a1.size : Int) > 2147483647))) else (laws_FnListHTML.j0 k l0 a1 true))) (fun k => rfl) ?_
  refine Ev.bind e0 ?_
  cases b0 with
  | false => exact j0_true l0 a1
  | true =>
    refine Ev.congr (f := fun k => laws_FnListHTML.j0 k l0 a1 (decide ((a1.size : Int) > 2147483647))) (fun k => by simp) ?_
    cases hd : decide ((a1.size : Int) > 2147483647) with
    | true => exact j0_true l0 a1
    | false =>
      obtain ⟨r0, q0, d0⟩ := right_ev l0 (g0 rfl)
      refine Ev.step (f := fun k => (spec_LsRight.f k l0).bind fun t147 => (if t147 = true then (if (l0.length : Int) = 0 then (laws_FnListHTML.j1 k l0 a1 true) else ((spec_LsNames.f k l0).bind fun t148 => (if t148 = true then (if (a1.size : Int) > 60 then (laws_FnListHTML.j1 k l0 a1 true) else (if a1.toList = ([] : List UInt8) then (laws_FnListHTML.j1 k l0 a1 false) else ((spec_LsName.f k a1).bind fun t149 => (laws_FnListHTML.j1 k l0 a1 (!t149))))) else (laws_FnListHTML.j1 k l0 a1 true)))) else (laws_FnListHTML.j1 k l0 a1 true))) (fun k => by rw [laws_FnListHTML.j0, if_neg (by decide)]) ?_
      refine Ev.bind q0 ?_
      cases r0 with
      | false => exact j1_true l0 a1
      | true =>
        obtain ⟨hl, hok⟩ := d0 rfl
        by_cases hn : (l0.length : Int) = 0
        · exact Ev.congr (fun k => by rw [if_pos rfl, if_pos hn]) (j1_true l0 a1)
        · obtain ⟨b1, e1, g1⟩ := names_ev l0 (by omega) (fun x hx => by have := (okL_all l0 none hok x hx).2; omega)
          refine Ev.congr (f := fun k => (spec_LsNames.f k l0).bind fun t148 => (if t148 = true then (if (a1.size : Int) > 60 then (laws_FnListHTML.j1 k l0 a1 true) else (if a1.toList = ([] : List UInt8) then (laws_FnListHTML.j1 k l0 a1 false) else ((spec_LsName.f k a1).bind fun t149 => (laws_FnListHTML.j1 k l0 a1 (!t149))))) else (laws_FnListHTML.j1 k l0 a1 true))) (fun k => by rw [if_pos rfl, if_neg hn]) ?_
          refine Ev.bind e1 ?_
          cases b1 with
          | false => exact j1_true l0 a1
          | true =>
            by_cases h60 : (a1.size : Int) > 60
            · exact Ev.congr (fun k => by rw [if_pos rfl, if_pos h60]) (j1_true l0 a1)
            · by_cases hz : a1.toList = ([] : List UInt8)
              · have ha : a1 = ⟨#[]⟩ := by rw [tl] at hz; rw [← ofL_of a1, hz]; rfl
                exact Ev.congr (fun k => by rw [if_pos rfl, if_neg h60, if_pos hz]) (j1_false l0 a1 hl (by omega) hok (g1 rfl) (by rw [ha]; decide))
              · obtain ⟨b2, e2, g2⟩ := name_ev a1 (by omega)
                refine Ev.congr (f := fun k => (spec_LsName.f k a1).bind fun t149 => (laws_FnListHTML.j1 k l0 a1 (!t149))) (fun k => by rw [if_pos rfl, if_neg h60, if_neg hz]) ?_
                refine Ev.bind e2 ?_
                cases b2 with
                | false => exact j1_true l0 a1
                | true => exact j1_false l0 a1 hl (by omega) hok (g1 rfl) (by unfold clOf; rw [if_neg (fun e => hz (by rw [e, tl]))]; exact g2 rfl)
end Go.Proofs.Ytphnnbbgcnilgaa.PureFnListHTML
