/-
  Proved: the plain law behind Rows.FnListBackSaid, over numbers and lists alone. Conditions: none beyond the statement's own.
-/
import Derived.Test.YtphnnbbgcnilgaaDoorRead
import Derived.Test.YtphnnbbgcnilgaaDoorGFnListBackx0
import Derived.Test.YtphnnbbgcnilgaaDoorGFnListBackx2
import Derived.Test.YtphnnbbgcnilgaaDoorGFnListBackx5
import Derived.Test.YtphnnbbgcnilgaaDoorBkY
import Derived.Lib.MapLaws
import Derived.Lib.RuneCount
import Derived.Stop.FmtQuoteTie
import Derived.Test.YtphnnbbgcnilgaaDoorGFnListBackx3
import Derived.Test.YtphnnbbgcnilgaaDoorGFnListBackx4
import Derived.Test.YtphnnbbgcnilgaaDoorGFnListBackx6
namespace Go.Proofs.YtphnnbbgcnilgaaDoor.Read
open Go.ChangeShapes Go.WideShapes Go.RowKit Go.Deep Go.Proofs.YtphnnbbgcnilgaaDoorW.PrintWords Go.Proofs.YtphnnbbgcnilgaaDoor.GFnListBack
def good36 (m : S36) : Prop := (Lit.int .i64 m.f1).wf = true
theorem opens36 : Opens Tryd.prog 36 k36 good36 := by
  intro H enc w base spare held fuel cs x h
  obtain ⟨hl, n, hf⟩ := struct_cells Tryd.underlying36 (by kernel_rfl) (by kernel_rfl) h
  obtain ⟨v0, y0, e0, t0⟩ := hf 0 _ rfl
  obtain ⟨v1, y1, e1, t1⟩ := hf 1 _ rfl
  obtain ⟨a, ha, _⟩ := DataW.trod_string Tryd.underlying9 t0
  obtain ⟨b, hb, _, wb⟩ := DataW.trod_int Tryd.underlying3 t1
  cases ha; cases hb
  match cs, hl with
  | [c0, c1], _ =>
    cases e0; cases e1
    exact ⟨⟨a, b⟩, ⟨[.string a], [.int .i64 b], rfl, rfl, rfl⟩, wb⟩
/-- an argument that is a list style -/
theorem open24 {H : Type} {enc : TypeId × Value → H} {w : World} {base : Nat} {spare : Nat → Bool} {held : Bool} {cs : Array Value} {x : DataW H} {pl : List MemPlace} (h : DataW.Trod enc Tryd.prog w base spare held 24 (.agg cs) x pl) :
    ∃ (f0 : Int) (f1 f2 f3 f4 f5 f6 f7 f8 : ByteArray), cs = #[.int .i64 f0, .string f1, .string f2, .string f3, .string f4, .string f5, .string f6, .string f7, .string f8] := by
  obtain ⟨fuel, hf⟩ := h
  have hc : (Value.agg cs).cells.toList = cs.toList := rfl
  rw [hc] at hf
  obtain ⟨hl, n, hg⟩ := struct_cells Tryd.underlying24 (by kernel_rfl) (by kernel_rfl) hf
  obtain ⟨v0, y0, e0, t0⟩ := hg 0 _ rfl
  obtain ⟨v1, y1, e1, t1⟩ := hg 1 _ rfl
  obtain ⟨v2, y2, e2, t2⟩ := hg 2 _ rfl
  obtain ⟨v3, y3, e3, t3⟩ := hg 3 _ rfl
  obtain ⟨v4, y4, e4, t4⟩ := hg 4 _ rfl
  obtain ⟨v5, y5, e5, t5⟩ := hg 5 _ rfl
  obtain ⟨v6, y6, e6, t6⟩ := hg 6 _ rfl
  obtain ⟨v7, y7, e7, t7⟩ := hg 7 _ rfl
  obtain ⟨v8, y8, e8, t8⟩ := hg 8 _ rfl
  obtain ⟨f0, h0, _, _⟩ := DataW.trod_int Tryd.underlying3 t0
  obtain ⟨f1, h1, _⟩ := DataW.trod_string Tryd.underlying9 t1
  obtain ⟨f2, h2, _⟩ := DataW.trod_string Tryd.underlying9 t2
  obtain ⟨f3, h3, _⟩ := DataW.trod_string Tryd.underlying9 t3
  obtain ⟨f4, h4, _⟩ := DataW.trod_string Tryd.underlying9 t4
  obtain ⟨f5, h5, _⟩ := DataW.trod_string Tryd.underlying9 t5
  obtain ⟨f6, h6, _⟩ := DataW.trod_string Tryd.underlying9 t6
  obtain ⟨f7, h7, _⟩ := DataW.trod_string Tryd.underlying9 t7
  obtain ⟨f8, h8, _⟩ := DataW.trod_string Tryd.underlying9 t8
  cases h0; cases h1; cases h2; cases h3; cases h4; cases h5; cases h6; cases h7; cases h8
  refine ⟨f0, f1, f2, f3, f4, f5, f6, f7, f8, ?_⟩
  obtain ⟨l⟩ := cs
  match l, hl with
  | [c0, c1, c2, c3, c4, c5, c6, c7, c8], _ =>
    cases e0; cases e1; cases e2; cases e3; cases e4; cases e5; cases e6; cases e7; cases e8
    rfl
end Go.Proofs.YtphnnbbgcnilgaaDoor.Read

namespace Go.Proofs.YtphnnbbgcnilgaaDoor.LstP
open Go.RowKit Go.Proofs.YtphnnbbgcnilgaaDoorW.PrintWords Go.Proofs.YtphnnbbgcnilgaaDoorW.PrintMore Go.Proofs.YtphnnbbgcnilgaaDoor.Common Go.Proofs.YtphnnbbgcnilgaaDoor.GFnListBack Go.Proofs.YtphnnbbgcnilgaaDoor.GivenBack Go.Proofs.YtphnnbbgcnilgaaDoor.LstT Go.Proofs.YtphnnbbgcnilgaaDoor.LstC Go.Proofs.YtphnnbbgcnilgaaDoor.LstD Go.Proofs.YtphnnbbgcnilgaaDoor.BkS
set_option linter.unusedVariables false
set_option linter.unusedSimpArgs false

def g (l : List S36) (i : Nat) : S36 := rd_T36 l (i : Int)
theorem g_drop (l : List S36) (i : Nat) (h : i < l.length) : l.drop i = g l i :: l.drop (i + 1) := by
  rw [List.drop_eq_getElem_cons h]
  simp [g, rd_T36, List.getD_eq_getElem?_getD, List.getElem?_eq_getElem h]
def okL : Option Nat → List S36 → Prop
  | _, [] => True
  | p, x :: t => 0 ≤ x.f1 ∧ x.f1.toNat ≤ (match p with | none => 0 | some m => m + 1) ∧ x.f0.size ≤ 200 ∧ LstN.simple x.f0 false = true ∧ okL (some x.f1.toNat) t
def prevO (l : List S36) (i : Nat) : Option Nat := if i = 0 then none else some (g l (i - 1)).f1.toNat
theorem fits (l : List S36) : ∃ b, Ev (fun k => laws_zzFits1.f k l) b ∧ (b = true → l.length ≤ 2147483647) := by
  by_cases h : (l.length : Int) > 2147483647
  · exact ⟨false, ⟨0, fun k _ => by show laws_zzFits1.f k l = _; unfold laws_zzFits1.f; rw [if_pos h]⟩, fun h => by cases h⟩
  · have go : ∀ d i : Nat, i + d = l.length → ∃ b, Ev (fun k => laws_zzFits1.l0 k l (l.length : Int) (i : Int)) b := by
      intro d
      induction d with
      | zero =>
        intro i hi
        exact ⟨true, Ev.step (f := fun _ => some true) (fun k => by simp only [laws_zzFits1.l0]; rw [if_neg (by omega)]) (Ev.now true)⟩
      | succ d ih =>
        intro i hi
        obtain ⟨b2, hb2⟩ := ih (i + 1) (by omega)
        by_cases hs : ((rd_T36 l (i : Int)).f0.size : Int) > 2147483647
        · refine ⟨false, Ev.step (f := fun _ => some false) (fun k => ?_) (Ev.now false)⟩
          simp only [laws_zzFits1.l0, laws_zzFits2.f]
          rw [if_pos (by omega), if_pos (by omega), if_pos (by omega), if_pos hs]
          rfl
        · refine ⟨b2, Ev.step (f := fun k => laws_zzFits1.l0 k l (l.length : Int) ((i + 1 : Nat) : Int)) (fun k => ?_) hb2⟩
          simp only [laws_zzFits1.l0, laws_zzFits2.f]
          rw [if_pos (by omega), if_pos (by omega), if_pos (by omega), if_neg hs, w64 _ (by omega) (by omega)]
          rfl
    obtain ⟨b, hb⟩ := go l.length 0 (by omega)
    exact ⟨b, Ev.congr (fun k => by show laws_zzFits1.f k l = _; unfold laws_zzFits1.f; rw [if_neg h]; rfl) hb, fun _ => by omega⟩
theorem right_loop (l : List S36) (hl : l.length ≤ 2147483647) : ∀ d i : Nat, i + d = l.length → (i = 0 ∨ (0 ≤ (g l (i - 1)).f1 ∧ (g l (i - 1)).f1 + 1 ≤ i)) →
    ∃ b, Ev (fun k => spec_LsRight.l0 k l l (l.length : Int) (i : Int)) b ∧ (b = true → l.length ≤ 60 ∧ okL (prevO l i) (l.drop i)) := by
  intro d
  induction d with
  | zero =>
    intro i hi hp
    refine ⟨decide ((l.length : Int) ≤ 60), Ev.step (f := fun _ => some (decide ((l.length : Int) ≤ 60))) (fun k => by simp only [spec_LsRight.l0]; rw [if_neg (by omega)]) (Ev.now _), fun h => ⟨by have := of_decide_eq_true h; omega, ?_⟩⟩
    rw [List.drop_eq_nil_of_le (by omega)]
    unfold okL
    trivial
  | succ d ih =>
    intro i hi hp
    have hlt : i < l.length := by omega
    rw [g_drop l i hlt]
    have hgi : rd_T36 l (i : Int) = g l i := rfl
    -- the bound of this item's level
    obtain ⟨M, hM, hMi, hstep⟩ : ∃ M : Int, M = ((match prevO l i with | none => 0 | some m => m + 1 : Nat) : Int) ∧ M ≤ i ∧ ∀ k, spec_LsRight.l0 (k + 1) l l (l.length : Int) (i : Int) = (if (g l i).f1 < 0 then (some false) else (if (g l i).f1 > M then (some false) else (if ((g l i).f0.size : Int) > 200 then (some false) else ((spec_TxSimple.f (g l i).f0 false).bind fun t => (if t = true then (spec_LsRight.l0 k l l (l.length : Int) ((i + 1 : Nat) : Int)) else (some false)))))) := by
      by_cases hz : i = 0
      · subst hz
        refine ⟨0, by simp [prevO], by omega, fun k => ?_⟩
        simp only [spec_LsRight.l0]
        rw [if_pos (by omega), if_pos (by omega), if_pos (by omega), if_neg (by omega), w64 (((0 : Nat) : Int) + 1) (by omega) (by omega)]
        rfl
      · obtain ⟨h0, h1⟩ : 0 ≤ (g l (i - 1)).f1 ∧ (g l (i - 1)).f1 + 1 ≤ i := hp.resolve_left hz
        have hw : wrap64 ((i : Int) - 1) = ((i - 1 : Nat) : Int) := by rw [w64 _ (by omega) (by omega)]; omega
        have hpr : rd_T36 l (((i - 1 : Nat)) : Int) = g l (i - 1) := rfl
        refine ⟨(g l (i - 1)).f1 + 1, ?_, ?_, fun k => ?_⟩
        · unfold prevO
          rw [if_neg hz]
          simp only
          omega
        · exact h1
        · simp only [spec_LsRight.l0]
          rw [if_pos (by omega), if_pos (by omega), if_pos (by omega), if_pos (by omega), hw, if_pos (by omega), if_pos (by omega), hpr, w64 ((i : Int) + 1) (by omega) (by omega), w64 ((g l (i - 1)).f1 + 1) (by omega) (by omega)]
          rfl
    have stop : ∀ F : Nat → Option Bool, (∀ k, F k = some false) → (∀ k, spec_LsRight.l0 (k + 1) l l (l.length : Int) (i : Int) = F k) → ∃ b, Ev (fun k => spec_LsRight.l0 k l l (l.length : Int) (i : Int)) b ∧ (b = true → l.length ≤ 60 ∧ okL (prevO l i) (g l i :: l.drop (i + 1))) := fun F hF h =>
      ⟨false, Ev.step (f := fun _ => some false) (fun k => (h k).trans (hF k)) (Ev.now false), fun h => by cases h⟩
    by_cases c1 : (g l i).f1 < 0
    · exact stop _ (fun k => if_pos c1) hstep
    · simp only [if_neg c1] at hstep
      by_cases c2 : (g l i).f1 > M
      · exact stop _ (fun k => if_pos c2) hstep
      · simp only [if_neg c2] at hstep
        by_cases c3 : ((g l i).f0.size : Int) > 200
        · exact stop _ (fun k => if_pos c3) hstep
        · simp only [if_neg c3] at hstep
          unfold spec_TxSimple.f at hstep
          simp only [Option.bind_some] at hstep
          by_cases c4 : LstN.simple (g l i).f0 false = true
          · simp only [if_pos c4] at hstep
            obtain ⟨b, hb, hr⟩ := ih (i + 1) (by omega) (.inr ⟨by show 0 ≤ (g l (i + 1 - 1)).f1; rw [Nat.add_sub_cancel]; omega, by rw [Nat.add_sub_cancel]; omega⟩)
            refine ⟨b, Ev.step (fun k => hstep k) hb, fun hbt => ⟨(hr hbt).1, by omega, ?_, by omega, c4, ?_⟩⟩
            · have : ((g l i).f1.toNat : Int) ≤ M := by omega
              rw [hM] at this
              exact_mod_cast this
            · have := (hr hbt).2
              unfold prevO at this
              rwa [if_neg (by omega), Nat.add_sub_cancel] at this
          · exact stop _ (fun k => if_neg c4) hstep
theorem right_ev (l : List S36) (hl : l.length ≤ 2147483647) : ∃ b, Ev (fun k => spec_LsRight.f k l) b ∧ (b = true → l.length ≤ 60 ∧ okL none l) := by
  obtain ⟨b, hb, hr⟩ := right_loop l hl l.length 0 (by omega) (.inl rfl)
  exact ⟨b, Ev.congr (fun k => rfl) hb, fun h => by simpa [prevO] using hr h⟩
end Go.Proofs.YtphnnbbgcnilgaaDoor.LstP

namespace Go.Proofs.YtphnnbbgcnilgaaDoor.LstQ
open Go.RowKit Go.Proofs.YtphnnbbgcnilgaaDoorW.PrintWords Go.Proofs.YtphnnbbgcnilgaaDoorW.PrintMore Go.Proofs.YtphnnbbgcnilgaaDoor.Common Go.Proofs.YtphnnbbgcnilgaaDoor.GFnListBack Go.Proofs.YtphnnbbgcnilgaaDoor.GivenBack Go.Proofs.YtphnnbbgcnilgaaDoor.LstT Go.Proofs.YtphnnbbgcnilgaaDoor.LstC Go.Proofs.YtphnnbbgcnilgaaDoor.LstD Go.Proofs.YtphnnbbgcnilgaaDoor.BkS Go.Proofs.YtphnnbbgcnilgaaDoor.LstP
set_option linter.unusedVariables false
set_option linter.unusedSimpArgs false

def ind : S57 := ⟨2, ⟨#[]⟩, []⟩
def uni : S57 := ⟨3, ⟨#[]⟩, []⟩
def itm (s : ByteArray) : S57 := ⟨0, s, []⟩
def steps : Nat → List S36 → List S57
  | _, [] => []
  | lev, x :: t => List.replicate (x.f1.toNat - lev) ind ++ (List.replicate (lev - x.f1.toNat) uni ++ itm x.f0 :: steps x.f1.toNat t)
theorem down_loop (l : List S36) (len i : Int) (s : ByteArray) (t : Nat) (r : List S57) : ∀ (n lev : Nat) (out : List S57), lev = t + n → out.length + n ≤ 1000000 → lev ≤ 1000000 →
    Ev (fun k => spec_LsSteps.l0 k (out ++ List.replicate n uni ++ [itm s]) (t : Int) l len (wrap64 (i + 1))) r → Ev (fun k => spec_LsSteps.l2 k out (lev : Int) l len i s (t : Int)) r := by
  intro n
  induction n with
  | zero =>
    intro lev out hl ho hb h
    subst hl
    refine Ev.step (fun k => ?_) h
    simp only [spec_LsSteps.l2]
    rw [if_neg (by omega), if_pos (by omega)]
    simp [itm]
  | succ n ih =>
    intro lev out hl ho hb h
    refine Ev.step (fun k => ?_) (ih (lev - 1) (out ++ [uni]) (by omega) (by simp; omega) (by omega) (by
      rw [List.append_assoc out [uni], List.singleton_append, ← List.replicate_succ]; exact h))
    simp only [spec_LsSteps.l2]
    rw [if_pos (by omega), if_pos (by omega), w64 _ (by omega) (by omega), show ((lev : Int) - 1) = ((lev - 1 : Nat) : Int) by omega]
    rfl
theorem up_loop (l : List S36) (len i : Int) (s : ByteArray) (t : Nat) (r : List S57) : ∀ (n lev : Nat) (out : List S57), t = lev + n → out.length + n ≤ 1000000 → t ≤ 1000000 →
    Ev (fun k => spec_LsSteps.l2 k (out ++ List.replicate n ind) (t : Int) l len i s (t : Int)) r → Ev (fun k => spec_LsSteps.l1 k out (lev : Int) l len i s (t : Int)) r := by
  intro n
  induction n with
  | zero =>
    intro lev out hl ho hb h
    obtain rfl : lev = t := by omega
    refine Ev.step (fun k => ?_) h
    simp only [spec_LsSteps.l1]
    rw [if_neg (by omega)]
    simp
  | succ n ih =>
    intro lev out hl ho hb h
    refine Ev.step (fun k => ?_) (ih (lev + 1) (out ++ [ind]) (by omega) (by simp; omega) (by omega) (by
      rw [List.append_assoc out [ind], List.singleton_append, ← List.replicate_succ]; exact h))
    simp only [spec_LsSteps.l1]
    rw [if_pos (by omega), if_pos (by omega), w64 _ (by omega) (by omega)]
    rfl
def pv : Option Nat → Nat
  | none => 0
  | some m => m + 1
theorem okL_cons {p : Option Nat} {x : S36} {t : List S36} (h : okL p (x :: t)) : 0 ≤ x.f1 ∧ x.f1.toNat ≤ pv p ∧ x.f0.size ≤ 200 ∧ LstN.simple x.f0 false = true ∧ okL (some x.f1.toNat) t := by
  unfold okL at h
  cases p <;> exact h
theorem wi (i : Nat) (h : i ≤ 1000) : wrap64 ((i : Int) + 1) = ((i + 1 : Nat) : Int) := by rw [w64 _ (by omega) (by omega)]; omega
theorem steps_loop (l : List S36) (hl : l.length ≤ 60) : ∀ (d i lev : Nat) (p : Option Nat) (out : List S57), i + d = l.length → out.length ≤ 200 * i → lev ≤ i → okL p (l.drop i) → pv p ≤ lev + 1 →
    Ev (fun k => spec_LsSteps.l0 k out (lev : Int) l (l.length : Int) (i : Int)) (out ++ steps lev (l.drop i)) := by
  intro d
  induction d with
  | zero =>
    intro i lev p out hi ho hlev hok hp
    rw [List.drop_eq_nil_of_le (by omega)]
    refine Ev.step (f := fun _ => some out) (fun k => by simp only [spec_LsSteps.l0]; rw [if_neg (by omega)]) ?_
    simp only [steps, List.append_nil]
    exact Ev.now out
  | succ d ih =>
    intro i lev p out hi ho hlev hok hp
    have hlt : i < l.length := by omega
    rw [g_drop l i hlt] at hok ⊢
    obtain ⟨h0, h1, h2, h3, h4⟩ := okL_cons hok
    have hf : (g l i).f1 = (((g l i).f1.toNat : Nat) : Int) := by omega
    refine Ev.step (f := fun k => spec_LsSteps.l1 k out (lev : Int) l (l.length : Int) (i : Int) (g l i).f0 (((g l i).f1.toNat : Nat) : Int)) (fun k => ?_) ?_
    · simp only [spec_LsSteps.l0]
      rw [if_pos (by omega), if_pos (by omega), if_pos (by omega), ← hf]
      rfl
    · rw [steps]
      obtain ⟨t, ht⟩ : ∃ t, t = (g l i).f1.toNat := ⟨_, rfl⟩
      rw [← ht] at h1 h4 ⊢
      have hnext := fun out' ho' => ih (i + 1) t (some t) out' (by omega) ho' (by omega) h4 (by simp [pv])
      have hw := wi i (by omega)
      have ht2 : t ≤ lev + 1 := Nat.le_trans h1 hp
      have hln : l.length = i + (d + 1) := hi.symm
      clear hok h0 h2 h3 h4 hf ht h1 hp ih
      rcases Nat.lt_or_ge t lev with hc | hc
      · refine Ev.step (f := fun k => spec_LsSteps.l2 k out (lev : Int) l (l.length : Int) (i : Int) (g l i).f0 ((t : Nat) : Int)) (fun k => by simp only [spec_LsSteps.l1]; rw [if_neg (by omega)]) ?_
        refine down_loop l _ _ _ t _ (lev - t) lev out (by omega) (by omega) (by omega) ?_
        rw [hw, show t - lev = 0 by omega, List.replicate_zero, List.nil_append]
        have := hnext (out ++ List.replicate (lev - t) uni ++ [itm (g l i).f0]) (by simp; omega)
        simpa [List.append_assoc] using this
      · refine up_loop l _ _ _ t _ (t - lev) lev out (by omega) (by omega) (by omega) ?_
        refine down_loop l _ _ _ t _ 0 t _ (by omega) (by simp; omega) (by omega) ?_
        rw [hw, show lev - t = 0 by omega, List.replicate_zero, List.nil_append]
        have := hnext (out ++ List.replicate (t - lev) ind ++ [itm (g l i).f0]) (by simp; omega)
        simpa [List.append_assoc] using this
theorem steps_ev (l : List S36) (hl : l.length ≤ 60) (hok : okL none l) : Ev (fun k => spec_LsSteps.f k l) (steps 0 l) := by
  have h := steps_loop l hl l.length 0 0 none [] (by omega) (by simp) (by omega) (by simpa using hok) (by simp [pv])
  rw [List.drop_zero, List.nil_append] at h
  exact Ev.congr (fun k => rfl) h
theorem steps_len (l : List S36) : ∀ (lev : Nat) (p : Option Nat), okL p l → pv p ≤ lev + 1 → lev + l.length ≤ 100 → (steps lev l).length ≤ 150 * l.length := by
  induction l with
  | nil => intro lev p _ _ _; simp [steps]
  | cons x t ih =>
    intro lev p hok hp hb
    obtain ⟨h0, h1, h2, h3, h4⟩ := okL_cons hok
    simp only [List.length_cons] at hb ⊢
    have := ih x.f1.toNat (some x.f1.toNat) h4 (by simp [pv]) (by omega)
    simp only [steps, List.length_append, List.length_replicate, List.length_cons]
    omega
/-! ### what a writer makes of them -/
theorem run_append (a b : List S57) (st : St) : run (a ++ b) st = (run a st).bind (run b) := by
  induction a generalizing st with
  | nil => rfl
  | cons x t ih =>
    rw [List.cons_append, run, run]
    cases stepF x st with
    | none => rfl
    | some st2 => exact ih st2
theorem run_uni (n : Nat) (its : List (Nat × ByteArray)) (lev : Nat) : run (List.replicate n uni) (its, lev) = some (its, lev - n) := by
  induction n generalizing lev with
  | zero => rfl
  | succ n ih =>
    rw [List.replicate_succ, run]
    have : stepF uni (its, lev) = some (its, lev - 1) := rfl
    rw [this, Option.bind_some, ih]
    congr 2
    omega
theorem good_of (s : ByteArray) (h : s.size ≤ 200) (hs : LstN.simple s false = true) : good s := ⟨by omega, LstN.simple_good s hs⟩
theorem run_itm (s : ByteArray) (h : good s) (its : List (Nat × ByteArray)) (lev : Nat) (r : List S57) : run (itm s :: r) (its, lev) = run r (its ++ [(lev, s)], lev) := by
  rw [run]
  have : stepF (itm s) (its, lev) = some (its ++ [(lev, s)], lev) := by
    unfold stepF itm
    rw [if_pos rfl, if_pos h]
  rw [this, Option.bind_some]
def it (x : S36) : Nat × ByteArray := (x.f1.toNat, x.f0)
theorem run_steps (l : List S36) : ∀ (its : List (Nat × ByteArray)) (lev : Nat) (p : Option Nat), okL p l → (p = none ∧ lev = 0) ∨ (p = some lev ∧ ∃ s, its.getLast? = some (lev, s)) → ∃ lev', run (steps lev l) (its, lev) = some (its ++ l.map it, lev') := by
  induction l with
  | nil => intro its lev p _ _; exact ⟨lev, by simp [steps, run]⟩
  | cons x t ih =>
    intro its lev p hok hp
    obtain ⟨h0, h1, h2, h3, h4⟩ := okL_cons hok
    have hg := good_of x.f0 h2 h3
    obtain ⟨lev', hr⟩ := ih (its ++ [(x.f1.toNat, x.f0)]) x.f1.toNat (some x.f1.toNat) h4 (.inr ⟨rfl, x.f0, by simp⟩)
    refine ⟨lev', ?_⟩
    rw [steps, run_append]
    have hup : run (List.replicate (x.f1.toNat - lev) ind) (its, lev) = some (its, max lev x.f1.toNat) := by
      rcases hp with ⟨rfl, rfl⟩ | ⟨rfl, s, hs⟩
      · simp only [pv] at h1
        rw [show x.f1.toNat - 0 = 0 by omega, List.replicate_zero, Nat.max_eq_left (by omega)]
        rfl
      · simp only [pv] at h1
        rcases Nat.lt_or_ge lev x.f1.toNat with hc | hc
        · rw [show x.f1.toNat - lev = 1 by omega, List.replicate_one]
          show (stepF ind (its, lev)).bind (run []) = _
          have : stepF ind (its, lev) = some (its, lev + 1) := by
            show some (its, indentF its lev) = _
            unfold indentF
            rw [hs]
            simp
          rw [this, show max lev x.f1.toNat = lev + 1 by omega]
          rfl
        · rw [show x.f1.toNat - lev = 0 by omega, List.replicate_zero, Nat.max_eq_left hc]
          rfl
    rw [hup, Option.bind_some, run_append, run_uni, Option.bind_some, run_itm _ hg, show max lev x.f1.toNat - (lev - x.f1.toNat) = x.f1.toNat by omega, hr]
    simp [it]
theorem levels (l : List S36) : ∀ (p : Option Nat), okL p l → ∀ x ∈ l, x.f1.toNat ≤ pv p + l.length ∧ good x.f0 := by
  induction l with
  | nil => intro p _ x hx; cases hx
  | cons y t ih =>
    intro p hok x hx
    obtain ⟨h0, h1, h2, h3, h4⟩ := okL_cons hok
    rcases List.mem_cons.1 hx with rfl | hx
    · exact ⟨by omega, good_of _ h2 h3⟩
    · have := ih _ h4 x hx
      have h5 : pv (some y.f1.toNat) = y.f1.toNat + 1 := rfl
      rw [h5] at this
      simp only [List.length_cons]
      exact ⟨by omega, this.2⟩
theorem ok_st (l : List S36) (lev : Nat) (hl : l.length ≤ 60) (hok : okL none l) : okSt (l.map it, lev) := by
  refine ⟨by simp; omega, fun x hx => ?_⟩
  obtain ⟨z, hz, rfl⟩ := List.mem_map.1 hx
  have := levels l none hok z hz
  rw [show pv none = 0 from rfl] at this
  exact ⟨by show z.f1.toNat ≤ 1000; omega, this.2⟩
end Go.Proofs.YtphnnbbgcnilgaaDoor.LstQ

namespace Go.Proofs.YtphnnbbgcnilgaaDoor.BkK
open Go.RowKit Go.Proofs.YtphnnbbgcnilgaaDoorW.PrintWords Go.Proofs.YtphnnbbgcnilgaaDoor.LstN Go.Proofs.YtphnnbbgcnilgaaDoor.Common Go.Proofs.YtphnnbbgcnilgaaDoor.BkW Go.Proofs.YtphnnbbgcnilgaaDoor.BkL Go.Proofs.YtphnnbbgcnilgaaDoor.BkY Go.Proofs.YtphnnbbgcnilgaaDoor.BkT
set_option linter.unusedVariables false
set_option linter.unusedSimpArgs false

def Ch (c : List UInt8) (r : Nat) : Prop := c ≠ [] ∧ (∀ t, Lib.decodeL (c ++ t) = (r, c.length)) ∧ (Utf8.encode (r : Int)).data.toList = c
theorem enc_list (r : Nat) : (Utf8.encode (r : Int)).data.toList = Lib.encodeRune (r : Int) := by
  unfold Lib.encodeRune
  rw [← Go.Extern.FmtText.encode_eq r]
  generalize (Utf8.encode (r : Int)).data.toList = l
  induction l with
  | nil => rfl
  | cons a t ih => simpa [Go.Extern.FmtText.nums] using ih
theorem dN2 (n b0 b1 b2 b3 : Nat) (h : b0 / 32 = 6) (hn : 1 < n) (h1 : b1 / 64 = 2) (hv : 128 ≤ b0 % 32 * 64 + b1 % 64) : Lib.decodeN n b0 b1 b2 b3 = (b0 % 32 * 64 + b1 % 64, 2) := by
  unfold Lib.decodeN
  rw [if_neg (by omega), if_pos ⟨h, hn, h1⟩, if_pos (by omega)]
theorem dN3 (n b0 b1 b2 b3 : Nat) (h : b0 / 16 = 14) (hn : 2 < n) (h1 : b1 / 64 = 2) (h2 : b2 / 64 = 2) (hv : 2048 ≤ b0 % 16 * 4096 + b1 % 64 * 64 + b2 % 64) (hw : b0 % 16 * 4096 + b1 % 64 * 64 + b2 % 64 < 55296 ∨ 57344 ≤ b0 % 16 * 4096 + b1 % 64 * 64 + b2 % 64) :
    Lib.decodeN n b0 b1 b2 b3 = (b0 % 16 * 4096 + b1 % 64 * 64 + b2 % 64, 3) := by
  unfold Lib.decodeN
  rw [if_neg (by omega), if_neg (by omega), if_pos ⟨h, ⟨by omega, h1⟩, ⟨hn, h2⟩⟩, if_pos ⟨hv, by omega⟩]
theorem dN4 (n b0 b1 b2 b3 : Nat) (h : b0 / 8 = 30) (hn : 3 < n) (h1 : b1 / 64 = 2) (h2 : b2 / 64 = 2) (h3 : b3 / 64 = 2) (hv : 65536 ≤ b0 % 8 * 262144 + b1 % 64 * 4096 + b2 % 64 * 64 + b3 % 64) (hw : b0 % 8 * 262144 + b1 % 64 * 4096 + b2 % 64 * 64 + b3 % 64 ≤ 1114111) :
    Lib.decodeN n b0 b1 b2 b3 = (b0 % 8 * 262144 + b1 % 64 * 4096 + b2 % 64 * 64 + b3 % 64, 4) := by
  unfold Lib.decodeN
  rw [if_neg (by omega), if_neg (by omega), if_neg (by omega), if_pos ⟨h, ⟨by omega, h1⟩, ⟨by omega, h2⟩, ⟨hn, h3⟩⟩, if_pos ⟨hv, by omega⟩]
theorem get_take (l t : List UInt8) (n i : Nat) (hi : i < n) (hn : n ≤ l.length) : (l.take n ++ t).getD i 0 = l.getD i 0 := by
  have h1 : i < (l.take n).length := by simp; omega
  simp only [List.getD_eq_getElem?_getD]
  rw [List.getElem?_append_left h1, List.getElem?_take, if_pos hi]
theorem ch_of (l : List UInt8) (hne : l ≠ []) (hv : (Lib.decodeL l).1 ≠ 65533) : Ch (l.take (Lib.decodeL l).2) (Lib.decodeL l).1 := by
  have hle := Lib.decodeL_le l hne
  have he := Lib.encode_decode l hne (fun h => hv h.1)
  have hlen : (l.take (Lib.decodeL l).2).length = (Lib.decodeL l).2 := by rw [List.length_take]; omega
  have hpos : 0 < l.length := List.length_pos_iff.2 hne
  refine ⟨?_, ?_, by rw [enc_list, he]⟩
  · have h0 := (Lib.encodeRuneZ_length ((Lib.decodeL l).1 : Int)).1
    intro e
    rw [e] at he
    have := congrArg List.length he
    simp [Lib.encodeRune] at this
    rw [this] at h0
    simp at h0
  · intro t
    rw [hlen]
    have g : ∀ i, i < (Lib.decodeL l).2 → (l.take (Lib.decodeL l).2 ++ t).getD i 0 = l.getD i 0 := fun i hi => get_take l t _ i hi hle
    have hl2 : (Lib.decodeL l).2 ≤ (l.take (Lib.decodeL l).2 ++ t).length := by rw [List.length_append, hlen]; omega
    rw [Lib.decodeL_N (l.take (Lib.decodeL l).2 ++ t)]
    rw [Lib.decodeL_N l] at g hv hl2 hle ⊢
    rcases Lib.decodeN_shape l.length (l.getD 0 0).toNat (l.getD 1 0).toNat (l.getD 2 0).toNat (l.getD 3 0).toNat with ⟨c1, e⟩ | ⟨c1, c2, c3, cv, e⟩ | ⟨c1, c2, c3, c4, cv, cs, e⟩ | ⟨c1, c2, c3, c4, c5, cv, cw, e⟩ | e
    · rw [e] at g hl2 ⊢
      dsimp only at g hl2 ⊢
      rw [g 0 (by omega)]
      exact Lib.decodeN_ascii _ _ _ _ _ c1
    · rw [e] at g hl2 ⊢
      dsimp only at g hl2 ⊢
      rw [g 0 (by omega), g 1 (by omega)]
      exact dN2 _ _ _ _ _ c1 (by omega) c3 cv
    · rw [e] at g hl2 ⊢
      dsimp only at g hl2 ⊢
      rw [g 0 (by omega), g 1 (by omega), g 2 (by omega)]
      exact dN3 _ _ _ _ _ c1 (by omega) c3 c4 cv cs
    · rw [e] at g hl2 ⊢
      dsimp only at g hl2 ⊢
      rw [g 0 (by omega), g 1 (by omega), g 2 (by omega), g 3 (by omega)]
      exact dN4 _ _ _ _ _ c1 (by omega) c3 c4 c5 cv cw
    · rw [e] at hv
      exact absurd rfl hv
theorem ch_ascii (b : UInt8) (h : b.toNat < 128) : Ch [b] b.toNat := by
  have hd : ∀ t, Lib.decodeL ([b] ++ t) = (b.toNat, 1) := fun t => by
    rw [Lib.decodeL_N]
    exact Lib.decodeN_ascii _ _ _ _ _ h
  have := ch_of [b] (by simp) (by rw [show [b] = [b] ++ [] from rfl, hd]; dsimp only; omega)
  rw [show Lib.decodeL [b] = (b.toNat, 1) from hd []] at this
  exact this
inductive Kn : List UInt8 → Prop
  | nil : Kn []
  | cons (c : List UInt8) (r : Nat) (t : List UInt8) (hc : Ch c r) (hr : r ≠ 10) (ht : Kn t) : Kn (c ++ t)
theorem Kn.append {a b : List UInt8} (ha : Kn a) (hb : Kn b) : Kn (a ++ b) := by
  induction ha with
  | nil => exact hb
  | cons c r t hc hr ht ih => rw [List.append_assoc]; exact .cons c r _ hc hr ih
theorem Kn.flat {L : List (List UInt8)} (h : ∀ a ∈ L, Kn a) : Kn L.flatten := by
  induction L with
  | nil => exact .nil
  | cons a t ih => exact (h a (by simp)).append (ih (fun b hb => h b (by simp [hb])))
theorem kn_space : Kn [32] := Kn.cons [32] 32 [] (ch_ascii 32 (by decide)) (by decide) .nil
theorem kn_rep (n : Nat) : Kn (Lib.repeatL [32] n) := by
  induction n with
  | zero => exact .nil
  | succ n ih => exact kn_space.append ih
theorem known_ten : known 10 = false := known_low ⟨10, by decide⟩
theorem kn_from (s : ByteArray) (fuel : Nat) : ∀ pos, s.size ≤ pos + fuel → simpleFrom s false fuel pos = true → Kn (s.data.toList.drop pos) := by
  induction fuel with
  | zero =>
    intro pos hp h
    rw [List.drop_eq_nil_of_le (by simp; omega)]
    exact .nil
  | succ f ih =>
    intro pos hp h
    by_cases hlt : pos < s.size
    · rw [simpleFrom, if_pos hlt] at h
      simp only [Bool.false_eq_true, false_and, or_false] at h
      by_cases hk : known ((Utf8.decode s pos).1 : Int) = true
      · rw [if_pos hk] at h
        have hw := width_pos s pos hlt
        have hrest := ih _ (by omega) h
        have hd := Lib.decodeL_drop s pos
        have hne : s.data.toList.drop pos ≠ [] := by
          intro e
          have := congrArg List.length e
          simp at this
          have h2 : s.data.size = s.size := rfl
          omega
        have h1 : (Lib.decodeL (s.data.toList.drop pos)).1 ≠ 65533 := by
          rw [hd]
          intro e
          rw [e] at hk
          exact absurd hk (by rw [show ((65533 : Nat) : Int) = 65533 from rfl, known_bad]; decide)
        have hc := ch_of _ hne h1
        rw [hd] at hc
        have h10 : (Utf8.decode s pos).1 ≠ 10 := by
          intro e
          rw [e] at hk
          exact absurd hk (by rw [show ((10 : Nat) : Int) = 10 from rfl, known_ten]; decide)
        rw [← List.drop_drop] at hrest
        have := Kn.cons _ _ _ hc h10 hrest
        rwa [List.take_append_drop] at this
      · rw [if_neg hk] at h
        cases h
    · rw [List.drop_eq_nil_of_le (by simp; omega)]
      exact .nil
theorem simple_kn (s : ByteArray) (h : simple s false = true) : Kn s.data.toList := by
  have := kn_from s s.size 0 (by omega) h
  rwa [List.drop_zero] at this
theorem width_from (s : ByteArray) (fuel : Nat) : ∀ pos, simpleFrom s false fuel pos = true → noWideFrom s fuel pos = true → widthFrom s fuel pos = Lib.runeCountFrom s fuel pos := by
  induction fuel with
  | zero => intro pos _ _; rfl
  | succ f ih =>
    intro pos h1 h2
    rw [widthFrom, Lib.runeCountFrom]
    by_cases hlt : pos < s.size
    · rw [simpleFrom, if_pos hlt] at h1
      rw [noWideFrom, if_pos hlt] at h2
      rw [if_pos hlt, if_pos hlt]
      simp only [Bool.false_eq_true, false_and, or_false] at h1
      by_cases hk : known ((Utf8.decode s pos).1 : Int) = true
      · rw [if_pos hk] at h1
        by_cases hw : wide ((Utf8.decode s pos).1 : Int) = true
        · rw [if_pos hw] at h2
          cases h2
        · rw [if_neg hw] at h2
          have h10 : (Utf8.decode s pos).1 ≠ 10 := by
            intro e
            rw [e] at hk
            exact absurd hk (by rw [show ((10 : Nat) : Int) = 10 from rfl, known_ten]; decide)
          rw [if_neg h10, ih _ h1 h2]
          unfold cols
          rw [if_neg hw]
      · rw [if_neg hk] at h1
        cases h1
    · rw [if_neg hlt, if_neg hlt]
theorem width_count (s : ByteArray) (h1 : simple s false = true) (h2 : noWide s = true) : width s = Lib.runeCount s := width_from s s.size 0 h1 h2
theorem count_pos (s : ByteArray) (h : 0 < s.size) : 0 < Lib.runeCount s := by
  unfold Lib.runeCount
  obtain ⟨f, hf⟩ : ∃ f, s.size = f + 1 := ⟨s.size - 1, by omega⟩
  rw [hf, Lib.runeCountFrom, if_pos (by omega)]
  omega
/-! ### lines -/
theorem add_last (L : List ByteArray) (cur x : ByteArray) : addLast (L ++ [cur]) x = L ++ [cur ++ x] := by
  unfold addLast
  have : rdOf ByteArray.empty (L ++ [cur]) (((L ++ [cur]).length - 1 : Nat) : Int) = cur := by simp [rdOf]
  rw [this]
  simp
theorem of_append (a b : List UInt8) : ofL (a ++ b) = ofL a ++ ofL b := by
  apply ByteArray.ext
  apply Array.ext'
  simp [ofL_data]
theorem drop_size (s : ByteArray) (pos : Nat) (c t : List UInt8) (h : s.data.toList.drop pos = c ++ t) (hc : c ≠ []) : pos < s.size := by
  have h1 := congrArg List.length h
  have h2 := List.length_pos_iff.2 hc
  simp at h1
  have h3 : s.data.size = s.size := rfl
  omega
theorem step_ch (s : ByteArray) (f pos : Nat) (L : List ByteArray) (c t : List UInt8) (r : Nat) (hc : Ch c r) (hd : s.data.toList.drop pos = c ++ t) :
    linesFrom s (f + 1) pos L = linesFrom s f (pos + c.length) (if r = 10 then L ++ [⟨#[]⟩] else addLast L (ofL c)) := by
  have hp := drop_size s pos c t hd hc.1
  have hdec : Utf8.decode s pos = (r, c.length) := by rw [← Lib.decodeL_drop, hd, hc.2.1]
  have henc : Utf8.encode (r : Int) = ofL c := by
    rw [← hc.2.2, ofL_of]
  rw [linesFrom, if_pos hp, hdec, henc]
theorem lines_text {a : List UInt8} (ha : Kn a) (s : ByteArray) (L : List ByteArray) : ∀ (fuel pos : Nat) (cur : ByteArray) (t : List UInt8), s.data.toList.drop pos = a ++ t → s.size ≤ pos + fuel →
    ∃ f, s.size ≤ pos + a.length + f ∧ linesFrom s fuel pos (L ++ [cur]) = linesFrom s f (pos + a.length) (L ++ [cur ++ ofL a]) := by
  induction ha with
  | nil =>
    intro fuel pos cur t hd hf
    refine ⟨fuel, by simpa using hf, ?_⟩
    have : cur ++ ofL [] = cur := by apply ByteArray.ext; apply Array.ext'; simp [ofL_data]
    rw [this]
    rfl
  | cons c r u hc hr hu ih =>
    intro fuel pos cur t hd hf
    rw [List.append_assoc] at hd
    have hp := drop_size s pos c _ hd hc.1
    obtain ⟨f, rfl⟩ : ∃ f, fuel = f + 1 := ⟨fuel - 1, by omega⟩
    have hl := List.length_pos_iff.2 hc.1
    have hd2 : s.data.toList.drop (pos + c.length) = u ++ t := by rw [← List.drop_drop, hd, List.drop_left]
    obtain ⟨g, hg, he⟩ := ih f (pos + c.length) (cur ++ ofL c) t hd2 (by omega)
    refine ⟨g, by rw [List.length_append]; omega, ?_⟩
    rw [step_ch s f pos _ c _ r hc hd, if_neg hr, add_last, he, List.length_append, Nat.add_assoc, of_append, ByteArray.append_assoc]
theorem lines_tail (bs : List (List UInt8)) (s : ByteArray) : (∀ b ∈ bs, Kn b) → ∀ (fuel pos : Nat) (L : List ByteArray), s.data.toList.drop pos = bs.flatMap (fun b => 10 :: b) → s.size ≤ pos + fuel → linesFrom s fuel pos L = L ++ bs.map ofL := by
  induction bs with
  | nil =>
    intro _ fuel pos L hd hf
    have hp : ¬ pos < s.size := by
      intro h
      have := congrArg List.length hd
      simp at this
      have h3 : s.data.size = s.size := rfl
      omega
    rw [List.map_nil, List.append_nil]
    cases fuel with
    | zero => rfl
    | succ f => rw [linesFrom, if_neg hp]
  | cons b t ih =>
    intro hk fuel pos L hd hf
    rw [List.flatMap_cons, List.cons_append] at hd
    have hd' : s.data.toList.drop pos = [10] ++ (b ++ t.flatMap (fun b => 10 :: b)) := hd
    have hp := drop_size s pos [10] _ hd' (by simp)
    obtain ⟨f, rfl⟩ : ∃ f, fuel = f + 1 := ⟨fuel - 1, by omega⟩
    have hd2 : s.data.toList.drop (pos + 1) = b ++ t.flatMap (fun b => 10 :: b) := by rw [← List.drop_drop, hd]; rfl
    obtain ⟨g, hg, he⟩ := lines_text (hk b (by simp)) s L f (pos + 1) ⟨#[]⟩ _ hd2 (by omega)
    have hd3 : s.data.toList.drop (pos + 1 + b.length) = t.flatMap (fun b => 10 :: b) := by rw [← List.drop_drop, hd2, List.drop_left]
    have hem : (⟨#[]⟩ : ByteArray) ++ ofL b = ofL b := by apply ByteArray.ext; apply Array.ext'; simp [ofL_data]
    rw [step_ch s f pos L [10] _ 10 (ch_ascii 10 (by decide)) hd', if_pos rfl]
    show linesFrom s f (pos + 1) _ = _
    rw [he, hem, ih (fun x hx => hk x (by simp [hx])) g _ _ hd3 (by omega)]
    simp
theorem lines_join (b0 : List UInt8) (bs : List (List UInt8)) (h0 : Kn b0) (hk : ∀ b ∈ bs, Kn b) : lines (ofL (b0 ++ bs.flatMap (fun b => 10 :: b))) = (b0 :: bs).map ofL := by
  obtain ⟨s, hs⟩ : ∃ s, s = ofL (b0 ++ bs.flatMap (fun b => 10 :: b)) := ⟨_, rfl⟩
  have hd : s.data.toList.drop 0 = b0 ++ bs.flatMap (fun b => 10 :: b) := by rw [hs, ofL_data, List.drop_zero]
  rw [← hs]
  unfold lines
  obtain ⟨g, hg, he⟩ := lines_text h0 s [] s.size 0 ⟨#[]⟩ _ hd (by omega)
  have hd3 : s.data.toList.drop (0 + b0.length) = bs.flatMap (fun b => 10 :: b) := by rw [← List.drop_drop, hd, List.drop_left]
  have hem : (⟨#[]⟩ : ByteArray) ++ ofL b0 = ofL b0 := by apply ByteArray.ext; apply Array.ext'; simp [ofL_data]
  rw [show ([⟨#[]⟩] : List ByteArray) = [] ++ [⟨#[]⟩] from rfl, he, hem, lines_tail bs s hk g _ _ hd3 (by omega)]
  simp
end Go.Proofs.YtphnnbbgcnilgaaDoor.BkK

namespace Go.Proofs.YtphnnbbgcnilgaaDoor.BkP
open Go.RowKit Go.Proofs.YtphnnbbgcnilgaaDoorW.PrintWords Go.Proofs.YtphnnbbgcnilgaaDoor.Common Go.Proofs.YtphnnbbgcnilgaaDoor.GFnListBack Go.Proofs.YtphnnbbgcnilgaaDoor.GivenBack
set_option linter.unusedVariables false
set_option linter.unusedSimpArgs false

theorem pre_iff (a b : ByteArray) (h : b.size ≤ a.size) : ((a.extract 0 b.size).toList = b.toList) ↔ b.data.toList <+: a.data.toList := by
  rw [tl, tl, extract_ofL, ofL_data, List.drop_zero, Nat.sub_zero, List.prefix_iff_eq_take]
  rw [size_l]
  exact ⟨fun h => h.symm, fun h => h.symm⟩
theorem begins (a b : ByteArray) : spec_LsBegins.f a b = some (if b.data.toList <+: a.data.toList then (ofL (a.data.toList.drop b.size), true) else (a, false)) := by
  unfold spec_LsBegins.f
  by_cases h1 : (a.size : Int) < (b.size : Int)
  · rw [if_pos h1, if_neg]
    intro h
    have := h.length_le
    rw [size_l, size_l] at this
    omega
  · rw [if_neg h1, if_pos (by omega), if_pos (by omega), Int.toNat_natCast]
    by_cases h2 : b.data.toList <+: a.data.toList
    · rw [if_pos ((pre_iff a b (by omega)).2 h2), if_pos h2, extract_ofL, List.take_of_length_le (by rw [List.length_drop, size_l]; omega)]
    · rw [if_neg (fun h => h2 ((pre_iff a b (by omega)).1 h)), if_neg h2]
theorem begins_l (a : List UInt8) (b : ByteArray) : spec_LsBegins.f (ofL a) b = some (if b.data.toList <+: a then (ofL (a.drop b.size), true) else (ofL a, false)) := begins (ofL a) b
def B (x : ByteArray) : List UInt8 := x.data.toList ++ [32]
theorem b_data (x : ByteArray) : (x ++ (⟨#[32]⟩ : ByteArray)).data.toList = B x := by simp [B]
theorem b_size (x : ByteArray) : (x ++ (⟨#[32]⟩ : ByteArray)).size = (B x).length := by rw [← b_data, size_l]
def okB (V : ByteArray) (T : List ByteArray) (x : ByteArray) : Prop := x.data.toList ≠ [] ∧ x.data.toList.head? ≠ some 32 ∧ ¬ V.data.toList <+: B x ∧ ¬ B x <+: V.data.toList ∧ ∀ c ∈ T, B c <+: B x → x = c
theorem bt0 (x : ByteArray) (h : 0 < x.size) : x.data.toList.head? = some 32 ↔ bt x 0 = 32 := by
  have h0 : x.data.toList ≠ [] := by intro e; have := congrArg List.length e; rw [size_l, List.length_nil] at this; omega
  have h1 := bt_get x 0 h
  rw [show (((0 : Nat) : Int)) = 0 from rfl] at h1
  rw [h1]
  obtain ⟨c, t, hl⟩ := List.exists_cons_of_ne_nil h0
  have h2 : x.data.toList[0]'(by rw [size_l]; exact h) = c := by simp [hl]
  rw [h2, hl]
  simp only [List.head?_cons, Option.some.injEq]
  exact ⟨fun e => by rw [e]; rfl, fun e => UInt8.toNat_inj.1 (by have : (c.toNat : Int) = 32 := e; show c.toNat = 32; omega)⟩
section
variable (f0 : Int) (f1 f2 f3 f4 f5 f6 f7 f8 : ByteArray) (T : List ByteArray)
theorem inner_loop (hT : ∀ x ∈ T, x.size ≤ 1000) (hl : T.length ≤ 1000) (x : ByteArray) (hx : x.size ≤ 1000) (i : Nat) (hi : i ≤ 1000) (b0 : Bool)
    (hb0 : Ev (fun k => spec_LsClear.l0 k T T (T.length : Int) ((i + 1 : Nat) : Int) f0 f1 f2 f3 f4 f5 f6 f7 f8) b0) : ∀ d j : Nat, j + d = T.length →
    ∃ b, Ev (fun k => spec_LsClear.l1 k T x T (T.length : Int) (i : Int) T (T.length : Int) (j : Int) f0 f1 f2 f3 f4 f5 f6 f7 f8) b ∧ (b = true → b0 = true ∧ ∀ c ∈ T.drop j, B c <+: B x → x = c) := by
  intro d
  induction d with
  | zero =>
    intro j hj
    refine ⟨b0, Ev.step (fun k => ?_) hb0, fun h => ⟨h, fun c hc => by rw [List.drop_eq_nil_of_le (by omega)] at hc; cases hc⟩⟩
    simp only [spec_LsClear.l1]
    rw [if_neg (by omega), w64 ((i : Int) + 1) (by omega) (by omega)]
    rfl
  | succ d ih =>
    intro j hj
    have hlt : j < T.length := by omega
    have hTj := hT _ (List.getElem_mem hlt)
    obtain ⟨b, hb, hr⟩ := ih (j + 1) (by omega)
    have hstep : ∀ k, spec_LsClear.l1 (k + 1) T x T (T.length : Int) (i : Int) T (T.length : Int) (j : Int) f0 f1 f2 f3 f4 f5 f6 f7 f8 =
        if B T[j] <+: B x then (if x.toList = T[j].toList then spec_LsClear.l1 k T x T (T.length : Int) (i : Int) T (T.length : Int) ((j + 1 : Nat) : Int) f0 f1 f2 f3 f4 f5 f6 f7 f8 else some false) else spec_LsClear.l1 k T x T (T.length : Int) (i : Int) T (T.length : Int) ((j + 1 : Nat) : Int) f0 f1 f2 f3 f4 f5 f6 f7 f8 := fun k => by
      simp only [spec_LsClear.l1]
      rw [if_pos (by omega), if_pos (by omega), if_pos (by omega), rdOf_at _ _ _ hlt, if_pos (by omega), if_pos (by omega), begins, Option.bind_some, b_data, b_data, w64 ((j : Int) + 1) (by omega) (by omega)]
      by_cases hp : B T[j] <+: B x
      · rw [if_pos hp, if_pos hp, if_pos rfl]; rfl
      · rw [if_neg hp, if_neg hp]; rfl
    by_cases hp : B T[j] <+: B x
    · by_cases he : x = T[j]
      · refine ⟨b, Ev.step (fun k => by rw [hstep, if_pos hp, if_pos (by rw [← he])]) hb, fun h => ⟨(hr h).1, fun c hc hcx => ?_⟩⟩
        rw [List.drop_eq_getElem_cons hlt] at hc
        rcases List.mem_cons.1 hc with rfl | hc
        · exact he
        · exact (hr h).2 c hc hcx
      · refine ⟨false, Ev.step (f := fun _ => some false) (fun k => ?_) (Ev.now false), fun h => by cases h⟩
        rw [hstep, if_pos hp, if_neg]
        intro e
        rw [tl, tl] at e
        exact he (by rw [← ofL_of x, ← ofL_of T[j], e])
    · refine ⟨b, Ev.step (fun k => by rw [hstep, if_neg hp]) hb, fun h => ⟨(hr h).1, fun c hc hcx => ?_⟩⟩
      rw [List.drop_eq_getElem_cons hlt] at hc
      rcases List.mem_cons.1 hc with rfl | hc
      · exact absurd hcx hp
      · exact (hr h).2 c hc hcx
theorem outer_loop (hT : ∀ x ∈ T, x.size ≤ 1000) (hl : T.length ≤ 1000) : ∀ d i : Nat, i + d = T.length →
    ∃ b, Ev (fun k => spec_LsClear.l0 k T T (T.length : Int) (i : Int) f0 f1 f2 f3 f4 f5 f6 f7 f8) b ∧ (b = true → ∀ x ∈ T.drop i, okB f5 T x) := by
  intro d
  induction d with
  | zero =>
    intro i hi
    refine ⟨true, Ev.step (f := fun _ => some true) (fun k => ?_) (Ev.now true), fun _ x hx => by rw [List.drop_eq_nil_of_le (by omega)] at hx; cases hx⟩
    simp only [spec_LsClear.l0]
    rw [if_neg (by omega)]
  | succ d ih =>
    intro i hi
    have hlt : i < T.length := by omega
    have hTi := hT _ (List.getElem_mem hlt)
    obtain ⟨b0, hb0, hr0⟩ := ih (i + 1) (by omega)
    obtain ⟨b, hb, hr⟩ := inner_loop f0 f1 f2 f3 f4 f5 f6 f7 f8 T hT hl T[i] hTi i (by omega) b0 hb0 T.length 0 (by omega)
    generalize hx : T[i] = x at *
    have stop : ∀ c : Bool, c = true → Ev (fun k => spec_LsClear.j2 k T x T (T.length : Int) (i : Int) c f0 f1 f2 f3 f4 f5 f6 f7 f8) false := fun c hc => by
      subst hc
      exact Ev.step (f := fun _ => some false) (fun k => by simp only [spec_LsClear.j2]; rfl) (Ev.now false)
    have hj2 : ∃ b2, Ev (fun k => spec_LsClear.j2 k T x T (T.length : Int) (i : Int) false f0 f1 f2 f3 f4 f5 f6 f7 f8) b2 ∧ (b2 = true → b0 = true ∧ ¬ f5.data.toList <+: B x ∧ ¬ B x <+: f5.data.toList ∧ ∀ c ∈ T, B c <+: B x → x = c) := by
      have hstep : ∀ k, spec_LsClear.j2 (k + 1) T x T (T.length : Int) (i : Int) false f0 f1 f2 f3 f4 f5 f6 f7 f8 = if f5.data.toList <+: B x then some false else if B x <+: f5.data.toList then some false else spec_LsClear.l1 k T x T (T.length : Int) (i : Int) T (T.length : Int) ((0 : Nat) : Int) f0 f1 f2 f3 f4 f5 f6 f7 f8 := fun k => by
        simp only [spec_LsClear.j2]
        rw [if_neg (by simp), if_pos (by omega), begins, Option.bind_some, b_data]
        by_cases h1 : f5.data.toList <+: B x
        · rw [if_pos h1, if_pos h1]; rfl
        · rw [if_neg h1, if_neg h1, if_neg (by simp), begins, Option.bind_some, b_data]
          by_cases h2 : B x <+: f5.data.toList
          · rw [if_pos h2, if_pos h2]; rfl
          · rw [if_neg h2, if_neg h2]; rfl
      by_cases h1 : f5.data.toList <+: B x
      · exact ⟨false, Ev.step (f := fun _ => some false) (fun k => by rw [hstep, if_pos h1]) (Ev.now false), fun h => by cases h⟩
      · by_cases h2 : B x <+: f5.data.toList
        · exact ⟨false, Ev.step (f := fun _ => some false) (fun k => by rw [hstep, if_neg h1, if_pos h2]) (Ev.now false), fun h => by cases h⟩
        · exact ⟨b, Ev.step (fun k => by rw [hstep, if_neg h1, if_neg h2]) hb, fun h => ⟨(hr h).1, h1, h2, by have := (hr h).2; rwa [List.drop_zero] at this⟩⟩
    obtain ⟨b2, hb2, hr2⟩ := hj2
    have hstep : ∀ k, spec_LsClear.l0 (k + 1) T T (T.length : Int) (i : Int) f0 f1 f2 f3 f4 f5 f6 f7 f8 = if x.toList = ([] : List UInt8) then spec_LsClear.j2 k T x T (T.length : Int) (i : Int) true f0 f1 f2 f3 f4 f5 f6 f7 f8 else if 0 < (x.size : Int) then spec_LsClear.j2 k T x T (T.length : Int) (i : Int) (bt x 0 == 32) f0 f1 f2 f3 f4 f5 f6 f7 f8 else none := fun k => by
      simp only [spec_LsClear.l0]
      rw [if_pos (by omega), if_pos (by omega), if_pos (by omega), rdOf_at _ _ _ hlt, hx]
    by_cases h0 : x.toList = ([] : List UInt8)
    · exact ⟨false, Ev.step (fun k => by rw [hstep, if_pos h0]) (stop true rfl), fun h => by cases h⟩
    · have hpos : 0 < x.size := by
        rw [tl] at h0
        have := List.length_pos_iff.2 h0
        rwa [size_l] at this
      by_cases h32 : bt x 0 = 32
      · exact ⟨false, Ev.step (fun k => by rw [hstep, if_neg h0, if_pos (by omega), h32]; rfl) (stop _ rfl), fun h => by cases h⟩
      · have hne : (bt x 0 == 32) = false := by simpa using h32
        refine ⟨b2, Ev.step (fun k => by rw [hstep, if_neg h0, if_pos (by omega), hne]) hb2, fun h z hz => ?_⟩
        obtain ⟨k1, k2, k3, k4⟩ := hr2 h
        rw [List.drop_eq_getElem_cons hlt, hx] at hz
        rcases List.mem_cons.1 hz with rfl | hz
        · exact ⟨by rwa [tl] at h0, fun e => h32 ((bt0 z hpos).1 e), k2, k3, k4⟩
        · exact hr0 k1 z hz
end
theorem clear_ev (f0 : Int) (f1 f2 f3 f4 f5 f6 f7 f8 : ByteArray) (hT : ∀ x ∈ [f1, f2, f3, f4, f6], x.size ≤ 1000) :
    ∃ b, Ev (fun k => spec_LsClear.f k f0 f1 f2 f3 f4 f5 f6 f7 f8) b ∧ (b = true → f5.data.toList ≠ [] ∧ f5.data.toList.head? ≠ some 32 ∧ f8.data.toList = [] ∧ ∀ x ∈ [f1, f2, f3, f4, f6], okB f5 [f1, f2, f3, f4, f6] x) := by
  obtain ⟨b, hb, hr⟩ := outer_loop f0 f1 f2 f3 f4 f5 f6 f7 f8 [f1, f2, f3, f4, f6] hT (by simp) 5 0 rfl
  have jt : Ev (fun k => spec_LsClear.j0 k [f1, f2, f3, f4, f6] true f0 f1 f2 f3 f4 f5 f6 f7 f8) false := Ev.step (f := fun _ => some false) (fun k => by simp only [spec_LsClear.j0]; rfl) (Ev.now false)
  have jf : Ev (fun k => spec_LsClear.j0 k [f1, f2, f3, f4, f6] false f0 f1 f2 f3 f4 f5 f6 f7 f8) b := Ev.step (fun k => by simp only [spec_LsClear.j0]; rw [if_neg (by simp)]; rfl) hb
  have hf : ∀ k, spec_LsClear.f k f0 f1 f2 f3 f4 f5 f6 f7 f8 = if f5.toList = ([] : List UInt8) then spec_LsClear.j0 k [f1, f2, f3, f4, f6] true f0 f1 f2 f3 f4 f5 f6 f7 f8 else if 0 < (f5.size : Int) then (if bt f5 0 = 32 then spec_LsClear.j0 k [f1, f2, f3, f4, f6] true f0 f1 f2 f3 f4 f5 f6 f7 f8 else spec_LsClear.j0 k [f1, f2, f3, f4, f6] (f8.toList != ([] : List UInt8)) f0 f1 f2 f3 f4 f5 f6 f7 f8) else none := fun k => by
    unfold spec_LsClear.f
    rw [Option.bind_some]
  by_cases h0 : f5.toList = ([] : List UInt8)
  · exact ⟨false, Ev.congr (fun k => by rw [hf, if_pos h0]) jt, fun h => by cases h⟩
  · have hpos : 0 < f5.size := by
      rw [tl] at h0
      have := List.length_pos_iff.2 h0
      rwa [size_l] at this
    by_cases h32 : bt f5 0 = 32
    · exact ⟨false, Ev.congr (fun k => by rw [hf, if_neg h0, if_pos (by omega), if_pos h32]) jt, fun h => by cases h⟩
    · by_cases h8 : f8.toList = []
      · have e8 : (f8.toList != ([] : List UInt8)) = false := by rw [h8]; rfl
        exact ⟨b, Ev.congr (fun k => by rw [hf, if_neg h0, if_pos (by omega), if_neg h32, e8]) jf, fun h => ⟨by rwa [tl] at h0, fun e => h32 ((bt0 f5 hpos).1 e), by rwa [tl] at h8, by have := hr h; rwa [List.drop_zero] at this⟩⟩
      · have e8 : (f8.toList != ([] : List UInt8)) = true := bne_iff_ne.2 h8
        exact ⟨false, Ev.congr (fun k => by rw [hf, if_neg h0, if_pos (by omega), if_neg h32, e8]) jt, fun h => by cases h⟩
/-! ### reading back -/
section
variable (f0 : Int) (f1 f2 f3 f4 f5 f6 f7 f8 : ByteArray) (bl : ByteArray) (ls : List ByteArray) (i : Nat)
theorem pick_done (T : List ByteArray) (hT : ∀ x ∈ T, x.size ≤ 1000) (hl : T.length ≤ 1000) (hi : i ≤ 1000) (x6 : List S36) (lvl : Int) (rest : ByteArray) (r : List S36 × Bool)
    (h : Ev (fun k => spec_LsBack.l0 k x6 bl ls (ls.length : Int) ((i + 1 : Nat) : Int) f0 f1 f2 f3 f4 f5 f6 f7 f8) r) : ∀ d j : Nat, j + d = T.length →
    Ev (fun k => spec_LsBack.l2 k x6 bl lvl rest true ls (ls.length : Int) (i : Int) T (T.length : Int) (j : Int) f0 f1 f2 f3 f4 f5 f6 f7 f8) r := by
  intro d
  induction d with
  | zero =>
    intro j hj
    refine Ev.step (fun k => ?_) h
    simp only [spec_LsBack.l2]
    rw [if_neg (by omega), if_pos (by simp), w64 ((i : Int) + 1) (by omega) (by omega)]
    rfl
  | succ d ih =>
    intro j hj
    have hlt : j < T.length := by omega
    have hTj := hT _ (List.getElem_mem hlt)
    refine Ev.step (fun k => ?_) (ih (j + 1) (by omega))
    simp only [spec_LsBack.l2]
    rw [if_pos (by omega), if_pos (by omega), if_pos (by omega), rdOf_at _ _ _ hlt, if_pos (by omega), begins, Option.bind_some, w64 ((j : Int) + 1) (by omega) (by omega)]
    split
    · rw [if_pos (by simp), if_pos (by simp)]; rfl
    · rw [if_neg (by simp)]; rfl
theorem pick (T : List ByteArray) (hT : ∀ x ∈ T, x.size ≤ 1000) (hl : T.length ≤ 1000) (hi : i ≤ 1000) (x6 : List S36) (h6 : x6.length ≤ 1000) (lvl : Int) (b : ByteArray) (txt : List UInt8) (hu : ∀ c ∈ T, B c <+: B b ++ txt → c = b) (r : List S36 × Bool)
    (h : Ev (fun k => spec_LsBack.l0 k (x6 ++ [⟨ofL txt, lvl⟩]) bl ls (ls.length : Int) ((i + 1 : Nat) : Int) f0 f1 f2 f3 f4 f5 f6 f7 f8) r) : ∀ d j : Nat, j + d = T.length → b ∈ T.drop j →
    Ev (fun k => spec_LsBack.l2 k x6 bl lvl (ofL (B b ++ txt)) false ls (ls.length : Int) (i : Int) T (T.length : Int) (j : Int) f0 f1 f2 f3 f4 f5 f6 f7 f8) r := by
  intro d
  induction d with
  | zero =>
    intro j hj hb
    rw [List.drop_eq_nil_of_le (by omega)] at hb
    cases hb
  | succ d ih =>
    intro j hj hb
    have hlt : j < T.length := by omega
    have hmem := List.getElem_mem hlt
    have hTj := hT _ hmem
    have hstep : ∀ k, spec_LsBack.l2 (k + 1) x6 bl lvl (ofL (B b ++ txt)) false ls (ls.length : Int) (i : Int) T (T.length : Int) (j : Int) f0 f1 f2 f3 f4 f5 f6 f7 f8 =
        if B T[j] <+: B b ++ txt then spec_LsBack.l2 k (x6 ++ [⟨ofL ((B b ++ txt).drop (B T[j]).length), lvl⟩]) bl lvl (ofL (B b ++ txt)) true ls (ls.length : Int) (i : Int) T (T.length : Int) ((j + 1 : Nat) : Int) f0 f1 f2 f3 f4 f5 f6 f7 f8
        else spec_LsBack.l2 k x6 bl lvl (ofL (B b ++ txt)) false ls (ls.length : Int) (i : Int) T (T.length : Int) ((j + 1 : Nat) : Int) f0 f1 f2 f3 f4 f5 f6 f7 f8 := fun k => by
      simp only [spec_LsBack.l2]
      rw [if_pos (by omega), if_pos (by omega), if_pos (by omega), rdOf_at _ _ _ hlt, if_pos (by omega), begins_l, Option.bind_some, b_data, b_size, w64 ((j : Int) + 1) (by omega) (by omega)]
      by_cases hp : B T[j] <+: B b ++ txt
      · rw [if_pos hp, if_pos hp, if_pos rfl, if_neg (by simp), if_pos (by omega)]; rfl
      · rw [if_neg hp, if_neg hp, if_neg (by simp)]; rfl
    by_cases hp : B T[j] <+: B b ++ txt
    · have he := hu _ hmem hp
      refine Ev.step (fun k => by rw [hstep, if_pos hp]) ?_
      rw [he, List.drop_left]
      exact pick_done f0 f1 f2 f3 f4 f5 f6 f7 f8 bl ls i T hT hl hi _ lvl _ r h d (j + 1) (by omega)
    · refine Ev.step (fun k => by rw [hstep, if_neg hp]) (ih (j + 1) (by omega) ?_)
      rw [List.drop_eq_getElem_cons hlt] at hb
      rcases List.mem_cons.1 hb with rfl | hb
      · exact absurd (List.prefix_append _ _) hp
      · exact hb
theorem peel (hV : f5.data.toList ≠ []) (hV2 : f5.data.toList.head? ≠ some 32) (hb : bl.data.toList.head? = some 32) (x6 : List S36) (tail : List UInt8) (h1 : ¬ f5.data.toList <+: tail) (h2 : ¬ bl.data.toList <+: tail) (r : List S36 × Bool) :
    ∀ (ps : List (List UInt8)) (lvl : Nat), (∀ p ∈ ps, p = f5.data.toList ∨ p = bl.data.toList) → lvl + ps.length ≤ 1000 →
    Ev (fun k => spec_LsBack.l2 k x6 bl ((lvl + ps.length : Nat) : Int) (ofL tail) false ls (ls.length : Int) (i : Int) [f1, f2, f3, f4, f6] (([f1, f2, f3, f4, f6] : List ByteArray).length : Int) ((0 : Nat) : Int) f0 f1 f2 f3 f4 f5 f6 f7 f8) r →
    Ev (fun k => spec_LsBack.l1 k x6 bl (lvl : Int) (ofL (ps.flatten ++ tail)) true ls (ls.length : Int) (i : Int) f0 f1 f2 f3 f4 f5 f6 f7 f8) r := by
  intro ps
  induction ps with
  | nil =>
    intro lvl _ _ h
    rw [List.flatten_nil, List.nil_append]
    refine Ev.step (f := fun k => spec_LsBack.l1 k x6 bl (lvl : Int) (ofL tail) false ls (ls.length : Int) (i : Int) f0 f1 f2 f3 f4 f5 f6 f7 f8) (fun k => ?_) ?_
    · have hB1 : spec_LsBegins.f (ofL tail) f5 = some (ofL tail, false) := by rw [begins_l, if_neg h1]
      have hB2 : spec_LsBegins.f (ofL tail) bl = some (ofL tail, false) := by rw [begins_l, if_neg h2]
      rw [spec_LsBack.l1, if_pos rfl, hB1, Option.bind_some, if_neg (by simp), hB2, Option.bind_some, if_neg (by simp)]
    · refine Ev.step (fun k => ?_) h
      rw [spec_LsBack.l1, if_neg (by simp), Option.bind_some]
      rfl
  | cons p t ih =>
    intro lvl hp hl h
    rw [List.length_cons] at hl
    have hw : wrap64 ((lvl : Int) + 1) = ((lvl + 1 : Nat) : Int) := by rw [w64 _ (by omega) (by omega)]; omega
    have hnext := ih (lvl + 1) (fun q hq => hp q (by simp [hq])) (by omega) (by rw [show lvl + 1 + t.length = lvl + (p :: t).length by simp; omega]; exact h)
    have hcut : ∀ x : List UInt8, (p ++ x).drop p.length = x := fun x => List.drop_left
    rw [List.flatten_cons, List.append_assoc]
    rcases hp p (by simp) with hpe | hpe
    · have hB : spec_LsBegins.f (ofL (p ++ (t.flatten ++ tail))) f5 = some (ofL (t.flatten ++ tail), true) := by
        rw [begins_l, if_pos (by rw [← hpe]; exact List.prefix_append _ _), ← size_l, ← hpe, hcut]
      refine Ev.step (fun k => ?_) hnext
      rw [spec_LsBack.l1, if_pos rfl, hB, Option.bind_some, if_pos (by simp), hw]
    · have hnV : ¬ f5.data.toList <+: p ++ (t.flatten ++ tail) := by
        intro hpre
        obtain ⟨c, u, hc⟩ := List.exists_cons_of_ne_nil hV
        rw [hc] at hpre hV2
        rw [hpe] at hpre
        cases hbl : bl.data.toList with
        | nil => rw [hbl] at hb; cases hb
        | cons e v =>
          rw [hbl] at hb hpre
          simp only [List.head?_cons, Option.some.injEq] at hb
          rw [List.cons_append, List.cons_prefix_cons] at hpre
          exact hV2 (by rw [List.head?_cons, hpre.1, hb])
      have hB1 : spec_LsBegins.f (ofL (p ++ (t.flatten ++ tail))) f5 = some (ofL (p ++ (t.flatten ++ tail)), false) := by
        rw [begins_l, if_neg hnV]
      have hB2 : spec_LsBegins.f (ofL (p ++ (t.flatten ++ tail))) bl = some (ofL (t.flatten ++ tail), true) := by
        rw [begins_l, if_pos (by rw [← hpe]; exact List.prefix_append _ _), ← size_l, ← hpe, hcut]
      refine Ev.step (fun k => ?_) hnext
      rw [spec_LsBack.l1, if_pos rfl, hB1, Option.bind_some, if_neg (by simp), hB2, Option.bind_some, if_pos (by simp), hw]
end
/-- a line: its pieces, its bullet, its text -/
abbrev Ln := List (List UInt8) × ByteArray × List UInt8
def lnB (x : Ln) : ByteArray := ofL (x.1.flatten ++ (B x.2.1 ++ x.2.2))
def lnI (x : Ln) : S36 := ⟨ofL x.2.2, (x.1.length : Int)⟩
theorem only {V : ByteArray} {T : List ByteArray} (hT : ∀ x ∈ T, okB V T x) {b c : ByteArray} (hb : b ∈ T) (hc : c ∈ T) (txt : List UInt8) (h : B c <+: B b ++ txt) : c = b := by
  rcases List.prefix_or_prefix_of_prefix h (List.prefix_append (B b) txt) with k | k
  · exact ((hT b hb).2.2.2.2 c hc k).symm
  · exact (hT c hc).2.2.2.2 b hb k
theorem not_v {V : ByteArray} {T : List ByteArray} (hT : ∀ x ∈ T, okB V T x) {b : ByteArray} (hb : b ∈ T) (txt : List UInt8) : ¬ V.data.toList <+: B b ++ txt := by
  intro h
  rcases List.prefix_or_prefix_of_prefix h (List.prefix_append (B b) txt) with k | k
  · exact (hT b hb).2.2.1 k
  · exact (hT b hb).2.2.2.1 k
theorem not_bl {V : ByteArray} {T : List ByteArray} (hT : ∀ x ∈ T, okB V T x) {b bl : ByteArray} (hb : b ∈ T) (hbl : bl.data.toList.head? = some 32) (txt : List UInt8) : ¬ bl.data.toList <+: B b ++ txt := by
  intro h
  obtain ⟨h0, h1, _⟩ := hT b hb
  obtain ⟨c, u, hc⟩ := List.exists_cons_of_ne_nil h0
  unfold B at h
  rw [hc] at h h1
  cases hb2 : bl.data.toList with
  | nil => rw [hb2] at hbl; cases hbl
  | cons e v =>
    rw [hb2] at h hbl
    simp only [List.head?_cons, Option.some.injEq] at hbl
    rw [List.append_assoc, List.cons_append, List.cons_prefix_cons] at h
    exact h1 (by rw [List.head?_cons, ← h.1, hbl])
theorem back_loop (f0 : Int) (f1 f2 f3 f4 f5 f6 f7 f8 : ByteArray) (bl : ByteArray) (hT : ∀ x ∈ [f1, f2, f3, f4, f6], x.size ≤ 1000) (hV : f5.data.toList ≠ []) (hV2 : f5.data.toList.head? ≠ some 32) (hb : bl.data.toList.head? = some 32) (hc : ∀ x ∈ [f1, f2, f3, f4, f6], okB f5 [f1, f2, f3, f4, f6] x)
    (L : List Ln) (hn : L.length ≤ 1000) (hL : ∀ x ∈ L, x.1.length ≤ 1000 ∧ x.2.1 ∈ [f1, f2, f3, f4, f6] ∧ ∀ p ∈ x.1, p = f5.data.toList ∨ p = bl.data.toList) :
    ∀ (d i : Nat), i + d = L.length → Ev (fun k => spec_LsBack.l0 k ((L.take i).map lnI) bl (L.map lnB) (((L.map lnB).length : Nat) : Int) (i : Int) f0 f1 f2 f3 f4 f5 f6 f7 f8) (L.map lnI, true) := by
  intro d
  induction d with
  | zero =>
    intro i hi
    refine Ev.step (f := fun _ => some (L.map lnI, true)) (fun k => ?_) (Ev.now _)
    simp only [spec_LsBack.l0]
    rw [List.length_map, if_neg (by omega), List.take_of_length_le (by omega)]
  | succ d ih =>
    intro i hi
    have hlt : i < L.length := by omega
    obtain ⟨k1, k2, k3⟩ := hL _ (List.getElem_mem hlt)
    have hnext := ih (i + 1) (by omega)
    rw [List.take_add_one, List.getElem?_eq_getElem hlt, Option.toList_some, List.map_append, List.map_cons, List.map_nil] at hnext
    refine Ev.step (f := fun k => spec_LsBack.l1 k ((L.take i).map lnI) bl ((0 : Nat) : Int) (ofL (L[i].1.flatten ++ (B L[i].2.1 ++ L[i].2.2))) true (L.map lnB) (((L.map lnB).length : Nat) : Int) (i : Int) f0 f1 f2 f3 f4 f5 f6 f7 f8) (fun k => ?_) ?_
    · simp only [spec_LsBack.l0]
      have hlm : i < (L.map lnB).length := by rw [List.length_map]; exact hlt
      rw [if_pos (by omega), if_pos (by omega), if_pos (by omega), rdOf_at _ _ _ hlm, List.getElem_map]
      rfl
    · refine peel f0 f1 f2 f3 f4 f5 f6 f7 f8 bl (L.map lnB) i hV hV2 hb _ _ (not_v hc k2 _) (not_bl hc k2 hb _) _ L[i].1 0 k3 (by omega) ?_
      refine pick f0 f1 f2 f3 f4 f5 f6 f7 f8 bl (L.map lnB) i [f1, f2, f3, f4, f6] hT (by simp) (by omega) _ (by simp; omega) _ L[i].2.1 L[i].2.2 (fun c hcT h => only hc k2 hcT _ h) _ ?_ 5 0 rfl (by simpa using k2)
      rw [Nat.zero_add]
      exact hnext
theorem same_ev (l : List S36) (hl : l.length ≤ 1000) : Ev (fun k => spec_LsSame.f k l l) true := by
  have go : ∀ d i : Nat, i + d = l.length → Ev (fun k => spec_LsSame.l0 k l l (l.length : Int) (i : Int)) true := by
    intro d
    induction d with
    | zero => intro i hi; exact Ev.step (f := fun _ => some true) (fun k => by simp only [spec_LsSame.l0]; rw [if_neg (by omega)]) (Ev.now true)
    | succ d ih =>
      intro i hi
      refine Ev.step (fun k => ?_) (ih (i + 1) (by omega))
      simp only [spec_LsSame.l0]
      rw [if_pos (by omega), if_pos (by omega), if_pos (by omega), if_pos (by omega), if_neg (by simp), w64 ((i : Int) + 1) (by omega) (by omega)]
      rfl
  exact Ev.congr (fun k => by unfold spec_LsSame.f; rw [if_pos rfl]; rfl) (go l.length 0 (by omega))
end Go.Proofs.YtphnnbbgcnilgaaDoor.BkP

namespace Go.Proofs.YtphnnbbgcnilgaaDoor.BkQ
open Go.RowKit Go.Proofs.YtphnnbbgcnilgaaDoorW.PrintWords Go.Proofs.YtphnnbbgcnilgaaDoor.Common Go.Proofs.YtphnnbbgcnilgaaDoor.GFnListBack Go.Proofs.YtphnnbbgcnilgaaDoor.GivenBack Go.Proofs.YtphnnbbgcnilgaaDoor.LstN Go.Proofs.YtphnnbbgcnilgaaDoor.LstD Go.Proofs.YtphnnbbgcnilgaaDoor.LstE Go.Proofs.YtphnnbbgcnilgaaDoor.LstF Go.Proofs.YtphnnbbgcnilgaaDoor.LstG Go.Proofs.YtphnnbbgcnilgaaDoor.LstH Go.Proofs.YtphnnbbgcnilgaaDoor.LstK Go.Proofs.YtphnnbbgcnilgaaDoor.LstP Go.Proofs.YtphnnbbgcnilgaaDoor.LstQ Go.Proofs.YtphnnbbgcnilgaaDoor.BkS Go.Proofs.YtphnnbbgcnilgaaDoor.BkK Go.Proofs.YtphnnbbgcnilgaaDoor.BkP
set_option linter.unusedVariables false
set_option linter.unusedSimpArgs false

section
variable (its : List (Nat × ByteArray)) (y : Sty) (vs : ByteArray)
def bul (i : Nat) : ByteArray := bulletF y (decide (i = 0)) (firstF its i) (firstF its i && lastF its i) (lastF its i) (decide (i = its.length - 1))
def pcs (i : Nat) : List (List UInt8) := (List.range (at0 its i).1).map fun j => if moreF its j i then y.ve.data.toList else vs.data.toList
def ln (i : Nat) : Ln := (pcs its y vs i, bul its y i, (at0 its i).2.data.toList)
def body (i : Nat) : List UInt8 := (pcs its y vs i).flatten ++ (B (bul its y i) ++ (at0 its i).2.data.toList)
theorem line_body (hpx : y.px.data.toList = []) (i : Nat) : lineL its y vs i = (if i = 0 then [] else [10]) ++ body its y vs i := by
  unfold lineL itemL body preL B bul pcs
  rw [hpx, List.flatMap_def]
  simp only [List.append_nil, List.append_assoc]
theorem out_bodies (hpx : y.px.data.toList = []) (n : Nat) : outL its y vs (n + 1) = body its y vs 0 ++ ((List.range n).map fun i => body its y vs (i + 1)).flatMap (fun b => 10 :: b) := by
  unfold outL
  rw [List.range_succ_eq_map, List.flatMap_cons, line_body its y vs hpx 0, if_pos rfl, List.nil_append]
  congr 1
  rw [List.flatMap_map, List.flatMap_map]
  congr 1
  funext i
  rw [line_body its y vs hpx (i + 1), if_neg (by omega)]
  rfl
theorem bul_mem (i : Nat) : bul its y i ∈ [y.sg, y.tp, y.fi, y.mi, y.bo] := by
  unfold bul bulletF
  repeat' split
  all_goals simp
theorem pcs_len (i : Nat) : (pcs its y vs i).length = (at0 its i).1 := by simp [pcs]
theorem pcs_mem (i : Nat) : ∀ p ∈ pcs its y vs i, p = y.ve.data.toList ∨ p = vs.data.toList := by
  intro p hp
  obtain ⟨j, _, rfl⟩ := List.mem_map.1 hp
  split
  · exact .inl rfl
  · exact .inr rfl
theorem kn_body (hb : ∀ x ∈ [y.sg, y.tp, y.fi, y.mi, y.bo], Kn x.data.toList) (hv : Kn y.ve.data.toList) (hs : Kn vs.data.toList) (i : Nat) (ht : Kn (at0 its i).2.data.toList) : Kn (body its y vs i) := by
  refine Kn.append (Kn.flat fun p hp => ?_) (((hb _ (bul_mem its y i)).append kn_space).append ht)
  rcases pcs_mem its y vs i p hp with rfl | rfl
  · exact hv
  · exact hs
theorem lines_out (hpx : y.px.data.toList = []) (n : Nat) (hk : ∀ i, i ≤ n → Kn (body its y vs i)) : BkL.lines (ofL (outL its y vs (n + 1))) = ((List.range (n + 1)).map (ln its y vs)).map lnB := by
  rw [out_bodies its y vs hpx n, lines_join _ _ (hk 0 (by omega)) (fun b hb => by
    obtain ⟨i, hi, rfl⟩ := List.mem_map.1 hb
    exact hk _ (by have := List.mem_range.1 hi; omega)), List.range_succ_eq_map]
  simp only [List.map_cons, List.map_map]
  rfl
theorem flat_len (m : Nat) (ps : List (List UInt8)) (h : ∀ p ∈ ps, p.length ≤ m) : ps.flatten.length ≤ ps.length * m := by
  induction ps with
  | nil => simp
  | cons p t ih =>
    have h1 := h p (by simp)
    have h2 := ih (fun q hq => h q (by simp [hq]))
    rw [List.flatten_cons, List.length_append, List.length_cons, Nat.add_mul]
    omega
theorem out_len (hpx : y.px.data.toList = []) (m : Nat) : ∀ n, (∀ i, i < n → (body its y vs i).length ≤ m) → (outL its y vs n).length ≤ n * (m + 1) := by
  intro n
  induction n with
  | zero => intro _; simp [outL]
  | succ n ih =>
    intro h
    rw [outL_succ, List.length_append, line_body its y vs hpx n, List.length_append, Nat.add_mul]
    have h1 := ih (fun i hi => h i (by omega))
    have h2 := h n (by omega)
    have h3 : (if n = 0 then ([] : List UInt8) else [10]).length ≤ 1 := by split <;> simp
    omega
end
theorem okL_all (l : List S36) : ∀ (p : Option Nat), okL p l → ∀ x ∈ l, 0 ≤ x.f1 ∧ x.f0.size ≤ 200 ∧ simple x.f0 false = true := by
  induction l with
  | nil => intro p _ x hx; cases hx
  | cons z t ih =>
    intro p hok x hx
    obtain ⟨h0, h1, h2, h3, h4⟩ := okL_cons hok
    rcases List.mem_cons.1 hx with rfl | hx
    · exact ⟨h0, h2, h3⟩
    · exact ih _ h4 x hx
theorem at_it (l : List S36) (i : Nat) (h : i < l.length) : at0 (l.map it) i = it l[i] := by
  unfold at0
  rw [List.getD_eq_getElem?_getD, List.getElem?_map, List.getElem?_eq_getElem h]
  rfl
theorem items_back (l : List S36) (hok : okL none l) (y : Sty) (vs : ByteArray) : ((List.range l.length).map (ln (l.map it) y vs)).map lnI = l := by
  refine List.ext_getElem (by simp) fun i h1 h2 => ?_
  simp only [List.getElem_map, List.getElem_range]
  unfold lnI ln
  simp only
  rw [pcs_len, at_it l i h2, ofL_of]
  have h0 := (okL_all l none hok l[i] (List.getElem_mem h2)).1
  unfold it
  dsimp only
  rw [Int.toNat_of_nonneg h0]
theorem render_steps (l : List S36) (hl : l.length ≤ 60) (hok : okL none l) (f0 : Int) (f1 f2 f3 f4 f5 f6 f7 f8 : ByteArray) (hy : okStyle f0 f1 f2 f3 f4 f5 f6 f7 f8) :
    impl_ListRender.f (steps 0 l) f0 f1 f2 f3 f4 f5 f6 f7 f8 = some (ofL (outL (l.map it) (yOf f1 f2 f3 f4 f5 f6 f8) (vsOf f5) l.length)) := by
  obtain ⟨lev, h⟩ := run_steps l [] 0 none hok (.inl ⟨rfl, rfl⟩)
  have hs := steps_len l 0 none hok (by simp [pv]) (by omega)
  unfold impl_ListRender.f renderF
  rw [if_pos ⟨by omega, hy⟩, h, Option.bind_some, List.nil_append, if_pos (ok_st l lev hl hok), List.length_map]
theorem vs_size (f5 : ByteArray) (h : f5.size ≤ 20) : (vsOf f5).size ≤ 20 := by
  unfold vsOf
  rw [← size_l, ofL_data, Lib.repeatL_length]
  have := Lib.runeCount_le f5
  simp
  omega
theorem back_ev (l : List S36) (n : Nat) (hn : l.length = n + 1) (hl : l.length ≤ 60) (hok : okL none l) (f0 : Int) (f1 f2 f3 f4 f5 f6 f7 f8 : ByteArray)
    (ht : ∀ x ∈ [f1, f2, f3, f4, f6], x.size ≤ 20 ∧ simple x false = true) (h5 : f5.size ≤ 20 ∧ simple f5 false = true ∧ BkY.noWide f5 = true)
    (hV : f5.data.toList ≠ []) (hV2 : f5.data.toList.head? ≠ some 32) (h8 : f8.data.toList = []) (hc : ∀ x ∈ [f1, f2, f3, f4, f6], okB f5 [f1, f2, f3, f4, f6] x) :
    Ev (fun k => spec_LsBack.f k (ofL (outL (l.map it) (yOf f1 f2 f3 f4 f5 f6 f8) (vsOf f5) l.length)) f0 f1 f2 f3 f4 f5 f6 f7 f8) (l, true) := by
  obtain ⟨y, hy⟩ : ∃ y, y = yOf f1 f2 f3 f4 f5 f6 f8 := ⟨_, rfl⟩
  obtain ⟨vs, hvs⟩ : ∃ vs, vs = vsOf f5 := ⟨_, rfl⟩
  have hpx : y.px.data.toList = [] := by rw [hy]; exact h8
  have hpos : 0 < f5.size := by rw [← size_l]; exact List.length_pos_iff.2 hV
  have hcnt := count_pos f5 hpos
  have hcle := Lib.runeCount_le f5
  have hw : BkW.width f5 = Lib.runeCount f5 := width_count f5 h5.2.1 h5.2.2
  have hvl : vs.data.toList = Lib.repeatL [32] (Lib.runeCount f5) := by rw [hvs]; rfl
  have hv32 : vs.data.toList.head? = some 32 := by
    rw [hvl]
    obtain ⟨m, hm⟩ : ∃ m, Lib.runeCount f5 = m + 1 := ⟨Lib.runeCount f5 - 1, by omega⟩
    rw [hm]; rfl
  have hT : ∀ x ∈ [y.sg, y.tp, y.fi, y.mi, y.bo], x.size ≤ 20 ∧ simple x false = true := by rw [hy]; exact ht
  have hall := okL_all l none hok
  have hlev := levels l none hok
  have hat : ∀ i, i ≤ n → (at0 (l.map it) i).1 ≤ 60 ∧ (at0 (l.map it) i).2.size ≤ 200 ∧ simple (at0 (l.map it) i).2 false = true := fun i hi => by
    have hlt : i < l.length := by omega
    have hm := List.getElem_mem hlt
    rw [at_it l i hlt]
    have := (hlev _ hm).1
    rw [show pv none = 0 from rfl] at this
    exact ⟨by show (l[i]).f1.toNat ≤ 60; omega, (hall _ hm).2⟩
  have hvs20 : vs.size ≤ 20 := by rw [hvs]; exact vs_size f5 h5.1
  have hve : y.ve = f5 := by rw [hy]; rfl
  have hkn : ∀ i, i ≤ n → Kn (body (l.map it) y vs i) := fun i hi =>
    kn_body _ y vs (fun x hx => simple_kn x (hT x hx).2) (by rw [hve]; exact simple_kn f5 h5.2.1) (by rw [hvl]; exact kn_rep _) i (simple_kn _ (hat i hi).2.2)
  have hbl : ∀ i, i < n + 1 → (body (l.map it) y vs i).length ≤ 2000 := fun i hi => by
    obtain ⟨a1, a2, _⟩ := hat i (by omega)
    have hf := flat_len 20 (pcs (l.map it) y vs i) (fun p hp => by
      rcases pcs_mem _ y vs i p hp with rfl | rfl
      · rw [hve, size_l]; exact h5.1
      · rw [size_l]; exact hvs20)
    rw [pcs_len] at hf
    have hb := (hT _ (bul_mem (l.map it) y i)).1
    unfold body B
    simp only [List.length_append, size_l, List.length_cons, List.length_nil]
    have : (at0 (l.map it) i).1 * 20 ≤ 60 * 20 := Nat.mul_le_mul_right _ a1
    omega
  have hlen := out_len (l.map it) y vs hpx 2000 (n + 1) hbl
  have hsz : (ofL (outL (l.map it) y vs l.length)).size ≤ 1000000 := by
    rw [← size_l, ofL_data, hn]
    have : (n + 1) * (2000 + 1) ≤ 60 * 2001 := Nat.mul_le_mul_right _ (by omega)
    omega
  have hls := lines_out (l.map it) y vs hpx n hkn
  rw [← hn] at hls
  have hloop := back_loop f0 f1 f2 f3 f4 f5 f6 f7 f8 vs (fun x hx => by have := (ht x hx).1; omega) hV hV2 hv32 hc ((List.range l.length).map (ln (l.map it) y vs)) (by simp; omega) (fun x hx => by
    obtain ⟨i, hi, rfl⟩ := List.mem_map.1 hx
    have hi2 := List.mem_range.1 hi
    refine ⟨by show (pcs (l.map it) y vs i).length ≤ 1000; rw [pcs_len]; have := (hat i (by omega)).1; omega, ?_, ?_⟩
    · have := bul_mem (l.map it) y i
      rw [hy] at this ⊢
      exact this
    · have := pcs_mem (l.map it) y vs i
      rw [hve] at this
      exact this) l.length 0 (by simp)
  rw [items_back l hok y vs] at hloop
  rw [← hy, ← hvs]
  have e1 : spec_TxWidth.f f5 = some ((Lib.runeCount f5 : Nat) : Int) := by unfold spec_TxWidth.f; rw [if_pos (by omega), hw]
  have e2 : spec_TxTimes.f (⟨#[32]⟩ : ByteArray) ((Lib.runeCount f5 : Nat) : Int) = some vs := by
    unfold spec_TxTimes.f
    rw [if_pos ⟨by show 1 ≤ 1000; omega, by omega, by omega⟩, Int.toNat_natCast, hvs]
    rfl
  have e3 : spec_TxLines.f (ofL (outL (l.map it) y vs l.length)) = some (((List.range l.length).map (ln (l.map it) y vs)).map lnB) := by
    unfold spec_TxLines.f
    rw [if_pos hsz, hls]
  refine Ev.congr (fun k => ?_) hloop
  unfold spec_LsBack.f
  rw [if_neg (by rw [tl]; exact hV), e1, Option.bind_some, e2, Option.bind_some, e3, Option.bind_some]
  rfl
end Go.Proofs.YtphnnbbgcnilgaaDoor.BkQ

namespace Go.Proofs.YtphnnbbgcnilgaaDoor.PureFnListBack
set_option linter.unusedVariables false
open Go.RowKit Go.Proofs.YtphnnbbgcnilgaaDoorW.PrintWords Go.Proofs.YtphnnbbgcnilgaaDoor.Common Go.Proofs.YtphnnbbgcnilgaaDoor.Read Go.Proofs.YtphnnbbgcnilgaaDoor.GFnListBack Go.Proofs.YtphnnbbgcnilgaaDoor.GivenBack Go.Proofs.YtphnnbbgcnilgaaDoor.LstP Go.Proofs.YtphnnbbgcnilgaaDoor.LstQ Go.Proofs.YtphnnbbgcnilgaaDoor.BkS Go.Proofs.YtphnnbbgcnilgaaDoor.BkP Go.Proofs.YtphnnbbgcnilgaaDoor.BkQ

theorem sub5 {x f1 f2 f3 f4 f5 f6 f8 : ByteArray} (hx : x ∈ [f1, f2, f3, f4, f6]) : x ∈ [f1, f2, f3, f4, f5, f6, f8] := by
  simp only [List.mem_cons, List.not_mem_nil, or_false] at hx ⊢
  rcases hx with h | h | h | h | h
  · exact .inl h
  · exact .inr (.inl h)
  · exact .inr (.inr (.inl h))
  · exact .inr (.inr (.inr (.inl h)))
  · exact .inr (.inr (.inr (.inr (.inr (.inl h)))))
section
variable (l : List S36) (f0 : Int) (f1 f2 f3 f4 f5 f6 f7 f8 : ByteArray)
theorem j0_true : Ev (fun k => laws_FnListBack.j0 k l true f0 f1 f2 f3 f4 f5 f6 f7 f8) true := Ev.step (f := fun _ => some true) (fun k => by rw [laws_FnListBack.j0]; rfl) (Ev.now true)
theorem j1_true : Ev (fun k => laws_FnListBack.j1 k l true f0 f1 f2 f3 f4 f5 f6 f7 f8) true := Ev.step (f := fun _ => some true) (fun k => by rw [laws_FnListBack.j1]; rfl) (Ev.now true)
theorem styled_of (h : BkY.styledF f0 f1 f2 f3 f4 f5 f6 f7 f8 = true) : (∀ x ∈ [f1, f2, f3, f4, f5, f6, f8], x.size ≤ 20 ∧ LstN.simple x false = true) ∧ BkY.noWide f5 = true ∧ f0 = 0 ∧ f7 = ⟨#[10]⟩ := by
  unfold BkY.styledF at h
  rw [Bool.and_eq_true, Bool.and_eq_true] at h
  obtain ⟨h1, h2, h3⟩ := h
  unfold BkY.restF at h3
  rw [Bool.and_eq_true] at h3
  refine ⟨fun x hx => ?_, h2, of_decide_eq_true h3.1, ?_⟩
  · have := List.all_eq_true.1 h1 x hx
    unfold BkY.okT at this
    rw [Bool.and_eq_true] at this
    exact ⟨of_decide_eq_true this.1, this.2⟩
  · have := of_decide_eq_true h3.2
    rw [tl] at this
    rw [← ofL_of f7, this]
    rfl
theorem style_ok (h : (∀ x ∈ [f1, f2, f3, f4, f5, f6, f8], x.size ≤ 20 ∧ LstN.simple x false = true)) (h0 : f0 = 0) (h7 : f7 = ⟨#[10]⟩) : okStyle f0 f1 f2 f3 f4 f5 f6 f7 f8 := by
  have g := fun x hx => (h x hx).1
  have hv := vs_size f5 (g f5 (by simp))
  have e1 := g f1 (by simp)
  have e2 := g f2 (by simp)
  have e3 := g f3 (by simp)
  have e4 := g f4 (by simp)
  have e5 := g f5 (by simp)
  have e6 := g f6 (by simp)
  have e8 := g f8 (by simp)
  refine ⟨h0, h7, ?_⟩
  unfold LstF.shortY yOf
  exact ⟨by show f1.size ≤ 1000; omega, by show f2.size ≤ 1000; omega, by show f3.size ≤ 1000; omega, by show f4.size ≤ 1000; omega, by show f5.size ≤ 1000; omega, by show f6.size ≤ 1000; omega, by show f8.size ≤ 1000; omega, by omega⟩
theorem j1_false (hl : l.length ≤ 60) (hn : l.length ≠ 0) (hok : okL none l) (hs : BkY.styledF f0 f1 f2 f3 f4 f5 f6 f7 f8 = true)
    (hV : f5.data.toList ≠ []) (hV2 : f5.data.toList.head? ≠ some 32) (h8 : f8.data.toList = []) (hc : ∀ x ∈ [f1, f2, f3, f4, f6], okB f5 [f1, f2, f3, f4, f6] x) :
    Ev (fun k => laws_FnListBack.j1 k l false f0 f1 f2 f3 f4 f5 f6 f7 f8) true := by
  obtain ⟨ha, hw, h0, h7⟩ := styled_of f0 f1 f2 f3 f4 f5 f6 f7 f8 hs
  have hy := style_ok f0 f1 f2 f3 f4 f5 f6 f7 f8 ha h0 h7
  have hr := render_steps l hl hok f0 f1 f2 f3 f4 f5 f6 f7 f8 hy
  have hb := back_ev l (l.length - 1) (by omega) hl hok f0 f1 f2 f3 f4 f5 f6 f7 f8 (fun x hx => ha x (sub5 hx)) ⟨(ha f5 (by simp)).1, (ha f5 (by simp)).2, hw⟩ hV hV2 h8 hc
  obtain ⟨K0, e0⟩ := steps_ev l hl hok
  obtain ⟨K1, e1⟩ := hb
  obtain ⟨K2, e2⟩ := same_ev l (by omega)
  refine ⟨K0 + K1 + K2 + 1, fun k hk => ?_⟩
  obtain ⟨k, rfl⟩ : ∃ m, k = m + 1 := ⟨k - 1, by omega⟩
  have g0 : spec_LsSteps.f k l = some (steps 0 l) := e0 k (by omega)
  have g1 : spec_LsBack.f k (ofL (LstK.outL (l.map it) (yOf f1 f2 f3 f4 f5 f6 f8) (vsOf f5) l.length)) f0 f1 f2 f3 f4 f5 f6 f7 f8 = some (l, true) := e1 k (by omega)
  have g2 : spec_LsSame.f k l l = some true := e2 k (by omega)
  show laws_FnListBack.j1 (k + 1) l false f0 f1 f2 f3 f4 f5 f6 f7 f8 = some true
  rw [laws_FnListBack.j1, if_neg (by decide), g0, Option.bind_some, hr, Option.bind_some, g1, Option.bind_some, if_pos rfl, g2, Option.bind_some]
theorem fits3 : ∃ b, laws_zzFits3.f f0 f1 f2 f3 f4 f5 f6 f7 f8 = some b := by
  unfold laws_zzFits3.f
  repeat' split
  all_goals exact ⟨_, rfl⟩
theorem pure (hg0 : (Goods (good36)) l) : ∃ k, laws_FnListBack.f k l f0 f1 f2 f3 f4 f5 f6 f7 f8 = some true := by
  refine Ev.rounds (g := fun k => laws_FnListBack.f k l f0 f1 f2 f3 f4 f5 f6 f7 f8) ?_
  obtain ⟨b0, e0, g0⟩ := fits l
  obtain ⟨b1, e1⟩ := fits3 f0 f1 f2 f3 f4 f5 f6 f7 f8
  refine Ev.congr (f := fun k => (laws_zzFits1.f k l).bind fun t157 => (if t157 = true then (laws_FnListBack.j0 k l (!b1) f0 f1 f2 f3 f4 f5 f6 f7 f8) else (laws_FnListBack.j0 k l true f0 f1 f2 f3 f4 f5 f6 f7 f8))) (fun k => by unfold laws_FnListBack.f; rw [e1]; rfl) ?_
  refine Ev.bind e0 ?_
  cases b0 with
  | false => exact j0_true l f0 f1 f2 f3 f4 f5 f6 f7 f8
  | true =>
    refine Ev.congr (f := fun k => laws_FnListBack.j0 k l (!b1) f0 f1 f2 f3 f4 f5 f6 f7 f8) (fun k => by simp) ?_
    cases b1 with
    | false => exact j0_true l f0 f1 f2 f3 f4 f5 f6 f7 f8
    | true =>
      obtain ⟨r0, q0, d0⟩ := right_ev l (g0 rfl)
      refine Ev.step (f := fun k => (spec_LsRight.f k l).bind fun t159 => (if t159 = true then (if (l.length : Int) = 0 then (laws_FnListBack.j1 k l true f0 f1 f2 f3 f4 f5 f6 f7 f8) else ((spec_LsStyled.f f0 f1 f2 f3 f4 f5 f6 f7 f8).bind fun t160 => (if t160 = true then ((spec_LsClear.f k f0 f1 f2 f3 f4 f5 f6 f7 f8).bind fun t161 => (laws_FnListBack.j1 k l (!t161) f0 f1 f2 f3 f4 f5 f6 f7 f8)) else (laws_FnListBack.j1 k l true f0 f1 f2 f3 f4 f5 f6 f7 f8)))) else (laws_FnListBack.j1 k l true f0 f1 f2 f3 f4 f5 f6 f7 f8))) (fun k => by rw [show (!true) = false from rfl, laws_FnListBack.j0, if_neg (by decide)]) ?_
      refine Ev.bind q0 ?_
      cases r0 with
      | false => exact j1_true l f0 f1 f2 f3 f4 f5 f6 f7 f8
      | true =>
        obtain ⟨hl, hok⟩ := d0 rfl
        by_cases hn : (l.length : Int) = 0
        · exact Ev.congr (fun k => by rw [if_pos rfl, if_pos hn]) (j1_true l f0 f1 f2 f3 f4 f5 f6 f7 f8)
        · cases hs : BkY.styledF f0 f1 f2 f3 f4 f5 f6 f7 f8 with
          | false => exact Ev.congr (fun k => by rw [if_pos rfl, if_neg hn]; unfold spec_LsStyled.f; rw [hs, Option.bind_some, if_neg (by decide)]) (j1_true l f0 f1 f2 f3 f4 f5 f6 f7 f8)
          | true =>
            obtain ⟨ha, _⟩ := styled_of f0 f1 f2 f3 f4 f5 f6 f7 f8 hs
            obtain ⟨b2, q2, d2⟩ := clear_ev f0 f1 f2 f3 f4 f5 f6 f7 f8 (fun x hx => by have := (ha x (sub5 hx)).1; omega)
            refine Ev.congr (f := fun k => (spec_LsClear.f k f0 f1 f2 f3 f4 f5 f6 f7 f8).bind fun t161 => (laws_FnListBack.j1 k l (!t161) f0 f1 f2 f3 f4 f5 f6 f7 f8)) (fun k => by rw [if_pos rfl, if_neg hn]; unfold spec_LsStyled.f; rw [hs, Option.bind_some, if_pos rfl]) ?_
            refine Ev.bind q2 ?_
            cases b2 with
            | false => exact j1_true l f0 f1 f2 f3 f4 f5 f6 f7 f8
            | true =>
              obtain ⟨c1, c2, c3, c4⟩ := d2 rfl
              exact j1_false l f0 f1 f2 f3 f4 f5 f6 f7 f8 hl (by omega) hok hs c1 c2 c3 c4
end
end Go.Proofs.YtphnnbbgcnilgaaDoor.PureFnListBack
