/-
  Proved: the plain law behind Rows.FnListFormatSaid, over numbers and lists alone. Conditions: none beyond the statement's own.
-/
import Derived.Test.YtphnnbbgcnilgaaDoorRead
import Derived.Test.YtphnnbbgcnilgaaDoorGFnListFormatx0
import Derived.Test.YtphnnbbgcnilgaaDoorGFnListFormatx3
namespace Go.Proofs.YtphnnbbgcnilgaaDoor.Read
open Go.ChangeShapes Go.WideShapes Go.RowKit Go.Deep Go.Proofs.YtphnnbbgcnilgaaDoorW.PrintWords Go.Proofs.YtphnnbbgcnilgaaDoor.GFnListFormat
def good36 (m : S36) : Prop := (Lit.int .i64 m.f1).wf = true
theorem opens36 : Opens Tryd.prog 36 k36 good36 := by
  intro H enc w base spare held fuel cs x h
  obtain ⟨hl, n, hf⟩ := struct_cells Tryd.underlying36 (by kernel_rfl) (by kernel_rfl) h
  obtain ⟨v0, y0, e0, t0⟩ := hf 0 _ rfl
  obtain ⟨v1, y1, e1, t1⟩ := hf 1 _ rfl
  obtain ⟨a, ha, _⟩ := DataW.trod_string Tryd.underlying9 t0
  obtain ⟨b, hb, _, wb⟩ := DataW.trod_int Tryd.underlying3 t1
  cases ha; cases hb
  match cs, hl with
  | [c0, c1], _ =>
    cases e0; cases e1
    exact ⟨⟨a, b⟩, ⟨[.string a], [.int .i64 b], rfl, rfl, rfl⟩, wb⟩
/-- an argument that is a list style -/
theorem open24 {H : Type} {enc : TypeId × Value → H} {w : World} {base : Nat} {spare : Nat → Bool} {held : Bool} {cs : Array Value} {x : DataW H} {pl : List MemPlace} (h : DataW.Trod enc Tryd.prog w base spare held 24 (.agg cs) x pl) :
    ∃ (f0 : Int) (f1 f2 f3 f4 f5 f6 f7 f8 : ByteArray), cs = #[.int .i64 f0, .string f1, .string f2, .string f3, .string f4, .string f5, .string f6, .string f7, .string f8] := by
  obtain ⟨fuel, hf⟩ := h
  have hc : (Value.agg cs).cells.toList = cs.toList := rfl
  rw [hc] at hf
  obtain ⟨hl, n, hg⟩ := struct_cells Tryd.underlying24 (by kernel_rfl) (by kernel_rfl) hf
  obtain ⟨v0, y0, e0, t0⟩ := hg 0 _ rfl
  obtain ⟨v1, y1, e1, t1⟩ := hg 1 _ rfl
  obtain ⟨v2, y2, e2, t2⟩ := hg 2 _ rfl
  obtain ⟨v3, y3, e3, t3⟩ := hg 3 _ rfl
  obtain ⟨v4, y4, e4, t4⟩ := hg 4 _ rfl
  obtain ⟨v5, y5, e5, t5⟩ := hg 5 _ rfl
  obtain ⟨v6, y6, e6, t6⟩ := hg 6 _ rfl
  obtain ⟨v7, y7, e7, t7⟩ := hg 7 _ rfl
  obtain ⟨v8, y8, e8, t8⟩ := hg 8 _ rfl
  obtain ⟨f0, h0, _, _⟩ := DataW.trod_int Tryd.underlying3 t0
  obtain ⟨f1, h1, _⟩ := DataW.trod_string Tryd.underlying9 t1
  obtain ⟨f2, h2, _⟩ := DataW.trod_string Tryd.underlying9 t2
  obtain ⟨f3, h3, _⟩ := DataW.trod_string Tryd.underlying9 t3
  obtain ⟨f4, h4, _⟩ := DataW.trod_string Tryd.underlying9 t4
  obtain ⟨f5, h5, _⟩ := DataW.trod_string Tryd.underlying9 t5
  obtain ⟨f6, h6, _⟩ := DataW.trod_string Tryd.underlying9 t6
  obtain ⟨f7, h7, _⟩ := DataW.trod_string Tryd.underlying9 t7
  obtain ⟨f8, h8, _⟩ := DataW.trod_string Tryd.underlying9 t8
  cases h0; cases h1; cases h2; cases h3; cases h4; cases h5; cases h6; cases h7; cases h8
  refine ⟨f0, f1, f2, f3, f4, f5, f6, f7, f8, ?_⟩
  obtain ⟨l⟩ := cs
  match l, hl with
  | [c0, c1, c2, c3, c4, c5, c6, c7, c8], _ =>
    cases e0; cases e1; cases e2; cases e3; cases e4; cases e5; cases e6; cases e7; cases e8
    rfl
end Go.Proofs.YtphnnbbgcnilgaaDoor.Read

namespace Go.Proofs.YtphnnbbgcnilgaaDoor.LstP
open Go.RowKit Go.Proofs.YtphnnbbgcnilgaaDoorW.PrintWords Go.Proofs.YtphnnbbgcnilgaaDoorW.PrintMore Go.Proofs.YtphnnbbgcnilgaaDoor.Common Go.Proofs.YtphnnbbgcnilgaaDoor.GFnListFormat Go.Proofs.YtphnnbbgcnilgaaDoor.GivenFmt Go.Proofs.YtphnnbbgcnilgaaDoor.LstT Go.Proofs.YtphnnbbgcnilgaaDoor.LstC Go.Proofs.YtphnnbbgcnilgaaDoor.LstD Go.Proofs.YtphnnbbgcnilgaaDoor.BkS
set_option linter.unusedVariables false
set_option linter.unusedSimpArgs false

def g (l : List S36) (i : Nat) : S36 := rd_T36 l (i : Int)
theorem g_drop (l : List S36) (i : Nat) (h : i < l.length) : l.drop i = g l i :: l.drop (i + 1) := by
  rw [List.drop_eq_getElem_cons h]
  simp [g, rd_T36, List.getD_eq_getElem?_getD, List.getElem?_eq_getElem h]
def okL : Option Nat → List S36 → Prop
  | _, [] => True
  | p, x :: t => 0 ≤ x.f1 ∧ x.f1.toNat ≤ (match p with | none => 0 | some m => m + 1) ∧ good x.f0 ∧ True ∧ okL (some x.f1.toNat) t
theorem good_of (s : ByteArray) (h : s.size ≤ 200) (hs : LstN.simple s false = true) : good s := ⟨by omega, LstN.simple_good s hs⟩
def prevO (l : List S36) (i : Nat) : Option Nat := if i = 0 then none else some (g l (i - 1)).f1.toNat
theorem fits (l : List S36) : ∃ b, Ev (fun k => laws_zzFits1.f k l) b ∧ (b = true → l.length ≤ 2147483647) := by
  by_cases h : (l.length : Int) > 2147483647
  · exact ⟨false, ⟨0, fun k _ => by show laws_zzFits1.f k l = _; unfold laws_zzFits1.f; rw [if_pos h]⟩, fun h => by cases h⟩
  · have go : ∀ d i : Nat, i + d = l.length → ∃ b, Ev (fun k => laws_zzFits1.l0 k l (l.length : Int) (i : Int)) b := by
      intro d
      induction d with
      | zero =>
        intro i hi
        exact ⟨true, Ev.step (f := fun _ => some true) (fun k => by simp only [laws_zzFits1.l0]; rw [if_neg (by omega)]) (Ev.now true)⟩
      | succ d ih =>
        intro i hi
        obtain ⟨b2, hb2⟩ := ih (i + 1) (by omega)
        by_cases hs : ((rd_T36 l (i : Int)).f0.size : Int) > 2147483647
        · refine ⟨false, Ev.step (f := fun _ => some false) (fun k => ?_) (Ev.now false)⟩
          simp only [laws_zzFits1.l0, laws_zzFits2.f]
          rw [if_pos (by omega), if_pos (by omega), if_pos (by omega), if_pos hs]
          rfl
        · refine ⟨b2, Ev.step (f := fun k => laws_zzFits1.l0 k l (l.length : Int) ((i + 1 : Nat) : Int)) (fun k => ?_) hb2⟩
          simp only [laws_zzFits1.l0, laws_zzFits2.f]
          rw [if_pos (by omega), if_pos (by omega), if_pos (by omega), if_neg hs, w64 _ (by omega) (by omega)]
          rfl
    obtain ⟨b, hb⟩ := go l.length 0 (by omega)
    exact ⟨b, Ev.congr (fun k => by show laws_zzFits1.f k l = _; unfold laws_zzFits1.f; rw [if_neg h]; rfl) hb, fun _ => by omega⟩
theorem right_loop (l : List S36) (hl : l.length ≤ 2147483647) : ∀ d i : Nat, i + d = l.length → (i = 0 ∨ (0 ≤ (g l (i - 1)).f1 ∧ (g l (i - 1)).f1 + 1 ≤ i)) →
    ∃ b, Ev (fun k => spec_LsRight.l0 k l l (l.length : Int) (i : Int)) b ∧ (b = true → l.length ≤ 60 ∧ okL (prevO l i) (l.drop i) ∧ ∀ x ∈ l.drop i, FmA.kn x.f0) := by
  intro d
  induction d with
  | zero =>
    intro i hi hp
    refine ⟨decide ((l.length : Int) ≤ 60), Ev.step (f := fun _ => some (decide ((l.length : Int) ≤ 60))) (fun k => by simp only [spec_LsRight.l0]; rw [if_neg (by omega)]) (Ev.now _), fun h => ⟨by have := of_decide_eq_true h; omega, ?_⟩⟩
    rw [List.drop_eq_nil_of_le (by omega)]
    exact ⟨by unfold okL; trivial, fun x hx => by simp at hx⟩
  | succ d ih =>
    intro i hi hp
    have hlt : i < l.length := by omega
    rw [g_drop l i hlt]
    have hgi : rd_T36 l (i : Int) = g l i := rfl
    -- the bound of this item's level
    obtain ⟨M, hM, hMi, hstep⟩ : ∃ M : Int, M = ((match prevO l i with | none => 0 | some m => m + 1 : Nat) : Int) ∧ M ≤ i ∧ ∀ k, spec_LsRight.l0 (k + 1) l l (l.length : Int) (i : Int) = (if (g l i).f1 < 0 then (some false) else (if (g l i).f1 > M then (some false) else (if ((g l i).f0.size : Int) > 200 then (some false) else ((spec_TxSimple.f (g l i).f0 false).bind fun t => (if t = true then (spec_LsRight.l0 k l l (l.length : Int) ((i + 1 : Nat) : Int)) else (some false)))))) := by
      by_cases hz : i = 0
      · subst hz
        refine ⟨0, by simp [prevO], by omega, fun k => ?_⟩
        simp only [spec_LsRight.l0]
        rw [if_pos (by omega), if_pos (by omega), if_pos (by omega), if_neg (by omega), w64 (((0 : Nat) : Int) + 1) (by omega) (by omega)]
        rfl
      · obtain ⟨h0, h1⟩ : 0 ≤ (g l (i - 1)).f1 ∧ (g l (i - 1)).f1 + 1 ≤ i := hp.resolve_left hz
        have hw : wrap64 ((i : Int) - 1) = ((i - 1 : Nat) : Int) := by rw [w64 _ (by omega) (by omega)]; omega
        have hpr : rd_T36 l (((i - 1 : Nat)) : Int) = g l (i - 1) := rfl
        refine ⟨(g l (i - 1)).f1 + 1, ?_, ?_, fun k => ?_⟩
        · unfold prevO
          rw [if_neg hz]
          simp only
          omega
        · exact h1
        · simp only [spec_LsRight.l0]
          rw [if_pos (by omega), if_pos (by omega), if_pos (by omega), if_pos (by omega), hw, if_pos (by omega), if_pos (by omega), hpr, w64 ((i : Int) + 1) (by omega) (by omega), w64 ((g l (i - 1)).f1 + 1) (by omega) (by omega)]
          rfl
    have stop : ∀ F : Nat → Option Bool, (∀ k, F k = some false) → (∀ k, spec_LsRight.l0 (k + 1) l l (l.length : Int) (i : Int) = F k) → ∃ b, Ev (fun k => spec_LsRight.l0 k l l (l.length : Int) (i : Int)) b ∧ (b = true → l.length ≤ 60 ∧ okL (prevO l i) (g l i :: l.drop (i + 1)) ∧ ∀ x ∈ g l i :: l.drop (i + 1), FmA.kn x.f0) := fun F hF h =>
      ⟨false, Ev.step (f := fun _ => some false) (fun k => (h k).trans (hF k)) (Ev.now false), fun h => by cases h⟩
    by_cases c1 : (g l i).f1 < 0
    · exact stop _ (fun k => if_pos c1) hstep
    · simp only [if_neg c1] at hstep
      by_cases c2 : (g l i).f1 > M
      · exact stop _ (fun k => if_pos c2) hstep
      · simp only [if_neg c2] at hstep
        by_cases c3 : ((g l i).f0.size : Int) > 200
        · exact stop _ (fun k => if_pos c3) hstep
        · simp only [if_neg c3] at hstep
          unfold spec_TxSimple.f at hstep
          simp only [Option.bind_some] at hstep
          by_cases c4 : LstN.simple (g l i).f0 false = true
          · simp only [if_pos c4] at hstep
            obtain ⟨b, hb, hr⟩ := ih (i + 1) (by omega) (.inr ⟨by show 0 ≤ (g l (i + 1 - 1)).f1; rw [Nat.add_sub_cancel]; omega, by rw [Nat.add_sub_cancel]; omega⟩)
            refine ⟨b, Ev.step (fun k => hstep k) hb, fun hbt => ⟨(hr hbt).1, ⟨by omega, ?_, good_of _ (by omega) c4, trivial, ?_⟩, fun x hx => ?_⟩⟩
            · have : ((g l i).f1.toNat : Int) ≤ M := by omega
              rw [hM] at this
              exact_mod_cast this
            · have := (hr hbt).2.1
              unfold prevO at this
              rwa [if_neg (by omega), Nat.add_sub_cancel] at this
            · rcases List.mem_cons.1 hx with rfl | hx
              · exact ⟨by omega, c4⟩
              · exact (hr hbt).2.2 x hx
          · exact stop _ (fun k => if_neg c4) hstep
theorem right_ev (l : List S36) (hl : l.length ≤ 2147483647) : ∃ b, Ev (fun k => spec_LsRight.f k l) b ∧ (b = true → l.length ≤ 60 ∧ okL none l ∧ ∀ x ∈ l, FmA.kn x.f0) := by
  obtain ⟨b, hb, hr⟩ := right_loop l hl l.length 0 (by omega) (.inl rfl)
  exact ⟨b, Ev.congr (fun k => rfl) hb, fun h => by simpa [prevO] using hr h⟩
end Go.Proofs.YtphnnbbgcnilgaaDoor.LstP

namespace Go.Proofs.YtphnnbbgcnilgaaDoor.LstQ
open Go.RowKit Go.Proofs.YtphnnbbgcnilgaaDoorW.PrintWords Go.Proofs.YtphnnbbgcnilgaaDoorW.PrintMore Go.Proofs.YtphnnbbgcnilgaaDoor.Common Go.Proofs.YtphnnbbgcnilgaaDoor.GFnListFormat Go.Proofs.YtphnnbbgcnilgaaDoor.GivenFmt Go.Proofs.YtphnnbbgcnilgaaDoor.LstT Go.Proofs.YtphnnbbgcnilgaaDoor.LstC Go.Proofs.YtphnnbbgcnilgaaDoor.LstD Go.Proofs.YtphnnbbgcnilgaaDoor.BkS Go.Proofs.YtphnnbbgcnilgaaDoor.LstP
set_option linter.unusedVariables false
set_option linter.unusedSimpArgs false

def ind : S57 := ⟨2, ⟨#[]⟩, []⟩
def uni : S57 := ⟨3, ⟨#[]⟩, []⟩
def itm (s : ByteArray) : S57 := ⟨0, s, []⟩
def steps : Nat → List S36 → List S57
  | _, [] => []
  | lev, x :: t => List.replicate (x.f1.toNat - lev) ind ++ (List.replicate (lev - x.f1.toNat) uni ++ itm x.f0 :: steps x.f1.toNat t)
theorem down_loop (l : List S36) (len i : Int) (s : ByteArray) (t : Nat) (r : List S57) : ∀ (n lev : Nat) (out : List S57), lev = t + n → out.length + n ≤ 1000000 → lev ≤ 1000000 →
    Ev (fun k => spec_LsSteps.l0 k (out ++ List.replicate n uni ++ [itm s]) (t : Int) l len (wrap64 (i + 1))) r → Ev (fun k => spec_LsSteps.l2 k out (lev : Int) l len i s (t : Int)) r := by
  intro n
  induction n with
  | zero =>
    intro lev out hl ho hb h
    subst hl
    refine Ev.step (fun k => ?_) h
    simp only [spec_LsSteps.l2]
    rw [if_neg (by omega), if_pos (by omega)]
    simp [itm]
  | succ n ih =>
    intro lev out hl ho hb h
    refine Ev.step (fun k => ?_) (ih (lev - 1) (out ++ [uni]) (by omega) (by simp; omega) (by omega) (by
      rw [List.append_assoc out [uni], List.singleton_append, ← List.replicate_succ]; exact h))
    simp only [spec_LsSteps.l2]
    rw [if_pos (by omega), if_pos (by omega), w64 _ (by omega) (by omega), show ((lev : Int) - 1) = ((lev - 1 : Nat) : Int) by omega]
    rfl
theorem up_loop (l : List S36) (len i : Int) (s : ByteArray) (t : Nat) (r : List S57) : ∀ (n lev : Nat) (out : List S57), t = lev + n → out.length + n ≤ 1000000 → t ≤ 1000000 →
    Ev (fun k => spec_LsSteps.l2 k (out ++ List.replicate n ind) (t : Int) l len i s (t : Int)) r → Ev (fun k => spec_LsSteps.l1 k out (lev : Int) l len i s (t : Int)) r := by
  intro n
  induction n with
  | zero =>
    intro lev out hl ho hb h
    obtain rfl : lev = t := by omega
    refine Ev.step (fun k => ?_) h
    simp only [spec_LsSteps.l1]
    rw [if_neg (by omega)]
    simp
  | succ n ih =>
    intro lev out hl ho hb h
    refine Ev.step (fun k => ?_) (ih (lev + 1) (out ++ [ind]) (by omega) (by simp; omega) (by omega) (by
      rw [List.append_assoc out [ind], List.singleton_append, ← List.replicate_succ]; exact h))
    simp only [spec_LsSteps.l1]
    rw [if_pos (by omega), if_pos (by omega), w64 _ (by omega) (by omega)]
    rfl
def pv : Option Nat → Nat
  | none => 0
  | some m => m + 1
theorem okL_cons {p : Option Nat} {x : S36} {t : List S36} (h : okL p (x :: t)) : 0 ≤ x.f1 ∧ x.f1.toNat ≤ pv p ∧ good x.f0 ∧ True ∧ okL (some x.f1.toNat) t := by
  unfold okL at h
  cases p <;> exact h
theorem wi (i : Nat) (h : i ≤ 1000) : wrap64 ((i : Int) + 1) = ((i + 1 : Nat) : Int) := by rw [w64 _ (by omega) (by omega)]; omega
theorem steps_loop (l : List S36) (hl : l.length ≤ 60) : ∀ (d i lev : Nat) (p : Option Nat) (out : List S57), i + d = l.length → out.length ≤ 200 * i → lev ≤ i → okL p (l.drop i) → pv p ≤ lev + 1 →
    Ev (fun k => spec_LsSteps.l0 k out (lev : Int) l (l.length : Int) (i : Int)) (out ++ steps lev (l.drop i)) := by
  intro d
  induction d with
  | zero =>
    intro i lev p out hi ho hlev hok hp
    rw [List.drop_eq_nil_of_le (by omega)]
    refine Ev.step (f := fun _ => some out) (fun k => by simp only [spec_LsSteps.l0]; rw [if_neg (by omega)]) ?_
    simp only [steps, List.append_nil]
    exact Ev.now out
  | succ d ih =>
    intro i lev p out hi ho hlev hok hp
    have hlt : i < l.length := by omega
    rw [g_drop l i hlt] at hok ⊢
    obtain ⟨h0, h1, h2, h3, h4⟩ := okL_cons hok
    have hf : (g l i).f1 = (((g l i).f1.toNat : Nat) : Int) := by omega
    refine Ev.step (f := fun k => spec_LsSteps.l1 k out (lev : Int) l (l.length : Int) (i : Int) (g l i).f0 (((g l i).f1.toNat : Nat) : Int)) (fun k => ?_) ?_
    · simp only [spec_LsSteps.l0]
      rw [if_pos (by omega), if_pos (by omega), if_pos (by omega), ← hf]
      rfl
    · rw [steps]
      obtain ⟨t, ht⟩ : ∃ t, t = (g l i).f1.toNat := ⟨_, rfl⟩
      rw [← ht] at h1 h4 ⊢
      have hnext := fun out' ho' => ih (i + 1) t (some t) out' (by omega) ho' (by omega) h4 (by simp [pv])
      have hw := wi i (by omega)
      have ht2 : t ≤ lev + 1 := Nat.le_trans h1 hp
      have hln : l.length = i + (d + 1) := hi.symm
      clear hok h0 h2 h3 h4 hf ht h1 hp ih
      rcases Nat.lt_or_ge t lev with hc | hc
      · refine Ev.step (f := fun k => spec_LsSteps.l2 k out (lev : Int) l (l.length : Int) (i : Int) (g l i).f0 ((t : Nat) : Int)) (fun k => by simp only [spec_LsSteps.l1]; rw [if_neg (by omega)]) ?_
        refine down_loop l _ _ _ t _ (lev - t) lev out (by omega) (by omega) (by omega) ?_
        rw [hw, show t - lev = 0 by omega, List.replicate_zero, List.nil_append]
        have := hnext (out ++ List.replicate (lev - t) uni ++ [itm (g l i).f0]) (by simp; omega)
        simpa [List.append_assoc] using this
      · refine up_loop l _ _ _ t _ (t - lev) lev out (by omega) (by omega) (by omega) ?_
        refine down_loop l _ _ _ t _ 0 t _ (by omega) (by simp; omega) (by omega) ?_
        rw [hw, show lev - t = 0 by omega, List.replicate_zero, List.nil_append]
        have := hnext (out ++ List.replicate (t - lev) ind ++ [itm (g l i).f0]) (by simp; omega)
        simpa [List.append_assoc] using this
theorem steps_ev (l : List S36) (hl : l.length ≤ 60) (hok : okL none l) : Ev (fun k => spec_LsSteps.f k l) (steps 0 l) := by
  have h := steps_loop l hl l.length 0 0 none [] (by omega) (by simp) (by omega) (by simpa using hok) (by simp [pv])
  rw [List.drop_zero, List.nil_append] at h
  exact Ev.congr (fun k => rfl) h
theorem steps_len (l : List S36) : ∀ (lev : Nat) (p : Option Nat), okL p l → pv p ≤ lev + 1 → lev + l.length ≤ 100 → (steps lev l).length ≤ 150 * l.length := by
  induction l with
  | nil => intro lev p _ _ _; simp [steps]
  | cons x t ih =>
    intro lev p hok hp hb
    obtain ⟨h0, h1, h2, h3, h4⟩ := okL_cons hok
    simp only [List.length_cons] at hb ⊢
    have := ih x.f1.toNat (some x.f1.toNat) h4 (by simp [pv]) (by omega)
    simp only [steps, List.length_append, List.length_replicate, List.length_cons]
    omega
/-! ### what a writer makes of them -/
theorem run_append (a b : List S57) (st : St) : run (a ++ b) st = (run a st).bind (run b) := by
  induction a generalizing st with
  | nil => rfl
  | cons x t ih =>
    rw [List.cons_append, run, run]
    cases stepF x st with
    | none => rfl
    | some st2 => exact ih st2
theorem run_uni (n : Nat) (its : List (Nat × ByteArray)) (lev : Nat) : run (List.replicate n uni) (its, lev) = some (its, lev - n) := by
  induction n generalizing lev with
  | zero => rfl
  | succ n ih =>
    rw [List.replicate_succ, run]
    have : stepF uni (its, lev) = some (its, lev - 1) := rfl
    rw [this, Option.bind_some, ih]
    congr 2
    omega
theorem run_itm (s : ByteArray) (h : good s) (its : List (Nat × ByteArray)) (lev : Nat) (r : List S57) : run (itm s :: r) (its, lev) = run r (its ++ [(lev, s)], lev) := by
  rw [run]
  have : stepF (itm s) (its, lev) = some (its ++ [(lev, s)], lev) := by
    unfold stepF itm
    rw [if_pos rfl, if_pos h]
  rw [this, Option.bind_some]
def it (x : S36) : Nat × ByteArray := (x.f1.toNat, x.f0)
theorem run_steps (l : List S36) : ∀ (its : List (Nat × ByteArray)) (lev : Nat) (p : Option Nat), okL p l → (p = none ∧ lev = 0) ∨ (p = some lev ∧ ∃ s, its.getLast? = some (lev, s)) → ∃ lev', run (steps lev l) (its, lev) = some (its ++ l.map it, lev') := by
  induction l with
  | nil => intro its lev p _ _; exact ⟨lev, by simp [steps, run]⟩
  | cons x t ih =>
    intro its lev p hok hp
    obtain ⟨h0, h1, h2, h3, h4⟩ := okL_cons hok
    have hg := h2
    obtain ⟨lev', hr⟩ := ih (its ++ [(x.f1.toNat, x.f0)]) x.f1.toNat (some x.f1.toNat) h4 (.inr ⟨rfl, x.f0, by simp⟩)
    refine ⟨lev', ?_⟩
    rw [steps, run_append]
    have hup : run (List.replicate (x.f1.toNat - lev) ind) (its, lev) = some (its, max lev x.f1.toNat) := by
      rcases hp with ⟨rfl, rfl⟩ | ⟨rfl, s, hs⟩
      · simp only [pv] at h1
        rw [show x.f1.toNat - 0 = 0 by omega, List.replicate_zero, Nat.max_eq_left (by omega)]
        rfl
      · simp only [pv] at h1
        rcases Nat.lt_or_ge lev x.f1.toNat with hc | hc
        · rw [show x.f1.toNat - lev = 1 by omega, List.replicate_one]
          show (stepF ind (its, lev)).bind (run []) = _
          have : stepF ind (its, lev) = some (its, lev + 1) := by
            show some (its, indentF its lev) = _
            unfold indentF
            rw [hs]
            simp
          rw [this, show max lev x.f1.toNat = lev + 1 by omega]
          rfl
        · rw [show x.f1.toNat - lev = 0 by omega, List.replicate_zero, Nat.max_eq_left hc]
          rfl
    rw [hup, Option.bind_some, run_append, run_uni, Option.bind_some, run_itm _ hg, show max lev x.f1.toNat - (lev - x.f1.toNat) = x.f1.toNat by omega, hr]
    simp [it]
theorem levels (l : List S36) : ∀ (p : Option Nat), okL p l → ∀ x ∈ l, x.f1.toNat ≤ pv p + l.length ∧ good x.f0 := by
  induction l with
  | nil => intro p _ x hx; cases hx
  | cons y t ih =>
    intro p hok x hx
    obtain ⟨h0, h1, h2, h3, h4⟩ := okL_cons hok
    rcases List.mem_cons.1 hx with rfl | hx
    · exact ⟨by omega, h2⟩
    · have := ih _ h4 x hx
      have h5 : pv (some y.f1.toNat) = y.f1.toNat + 1 := rfl
      rw [h5] at this
      simp only [List.length_cons]
      exact ⟨by omega, this.2⟩
theorem ok_st (f : Int) (l : List S36) (lev : Nat) (hl : l.length ≤ 60) (hok : okL none l) (hk : f = 0 ∨ ∀ x ∈ l, FmA.kn x.f0) : okSt f (l.map it, lev) := by
  refine ⟨by simp; omega, fun x hx => ?_⟩
  obtain ⟨z, hz, rfl⟩ := List.mem_map.1 hx
  have := levels l none hok z hz
  rw [show pv none = 0 from rfl] at this
  exact ⟨by show z.f1.toNat ≤ 1000; omega, this.2, hk.imp_right (fun h => h z hz)⟩
end Go.Proofs.YtphnnbbgcnilgaaDoor.LstQ

namespace Go.Proofs.YtphnnbbgcnilgaaDoor.PureFnListFormat
set_option linter.unusedVariables false
set_option linter.unusedSimpArgs false
open Go.RowKit Go.Proofs.YtphnnbbgcnilgaaDoorW.PrintWords Go.Proofs.YtphnnbbgcnilgaaDoor.Common Go.Proofs.YtphnnbbgcnilgaaDoor.Read Go.Proofs.YtphnnbbgcnilgaaDoor.GFnListFormat Go.Proofs.YtphnnbbgcnilgaaDoor.GivenFmt Go.Proofs.YtphnnbbgcnilgaaDoor.LstP Go.Proofs.YtphnnbbgcnilgaaDoor.LstQ Go.Proofs.YtphnnbbgcnilgaaDoor.LstT Go.Proofs.YtphnnbbgcnilgaaDoor.LstC Go.Proofs.YtphnnbbgcnilgaaDoor.LstD Go.Proofs.YtphnnbbgcnilgaaDoor.LstE Go.Proofs.YtphnnbbgcnilgaaDoor.LstF Go.Proofs.YtphnnbbgcnilgaaDoor.LstG Go.Proofs.YtphnnbbgcnilgaaDoor.LstH Go.Proofs.YtphnnbbgcnilgaaDoor.LstK Go.Proofs.YtphnnbbgcnilgaaDoor.BkS Go.Proofs.YtphnnbbgcnilgaaDoor.FmA

/-! ### the lines of the texts that a format made -/
def ph (f : Int) (x : Nat × ByteArray) : Nat × ByteArray := (x.1, FF f x.2)
theorem more_map (f : Int) (its : List (Nat × ByteArray)) (lev idx : Nat) : moreF (its.map (ph f)) lev idx = moreF its lev idx := by
  unfold moreF
  rw [← List.map_drop, List.find?_map]
  have : ((fun x : Nat × ByteArray => decide (x.1 ≤ lev)) ∘ ph f) = fun x => decide (x.1 ≤ lev) := rfl
  rw [this]
  cases List.find? (fun x => decide (x.1 ≤ lev)) (its.drop (idx + 1)) <;> rfl
theorem at_map (f : Int) (its : List (Nat × ByteArray)) (i : Nat) : (at0 (its.map (ph f)) i).1 = (at0 its i).1 := by
  unfold at0
  rw [List.getD_eq_getElem?_getD, List.getD_eq_getElem?_getD, List.getElem?_map]
  cases its[i]? <;> rfl
theorem at_text (f : Int) (its : List (Nat × ByteArray)) (i : Nat) (h : i < its.length) : (at0 (its.map (ph f)) i).2 = FF f (at0 its i).2 := by
  unfold at0
  rw [List.getD_eq_getElem?_getD, List.getD_eq_getElem?_getD, List.getElem?_map, List.getElem?_eq_getElem h]
  rfl
section
variable (f : Int) (f1 f2 f3 f4 f5 f6 f8 : ByteArray)
theorem line_map (its : List (Nat × ByteArray)) (vs : ByteArray) (i : Nat) (h : i < its.length) :
    lineL its (yOf f f1 f2 f3 f4 f5 f6 f8) vs i = lineL (its.map (ph f)) (yOf 0 f1 f2 f3 f4 f5 f6 f8) vs i := by
  have e1 : firstF (its.map (ph f)) i = firstF its i := by unfold firstF; rw [at_map, at_map]
  have e2 : lastF (its.map (ph f)) i = lastF its i := by unfold lastF; rw [at_map, more_map]
  have e3 : ∀ lv, preL (its.map (ph f)) (yOf 0 f1 f2 f3 f4 f5 f6 f8) vs i lv = preL its (yOf f f1 f2 f3 f4 f5 f6 f8) vs i lv := fun lv => by
    unfold preL
    simp only [more_map]
    rfl
  unfold lineL itemL
  rw [e1, e2, at_map, at_text f its i h, e3, List.length_map]
  have e4 : FF (yOf 0 f1 f2 f3 f4 f5 f6 f8).fm (FF f (at0 its i).2) = FF f (at0 its i).2 := FF_zero _
  rw [e4]
  rfl
theorem out_map (its : List (Nat × ByteArray)) (vs : ByteArray) : outL its (yOf f f1 f2 f3 f4 f5 f6 f8) vs its.length = outL (its.map (ph f)) (yOf 0 f1 f2 f3 f4 f5 f6 f8) vs its.length := by
  have : ∀ k, k ≤ its.length → outL its (yOf f f1 f2 f3 f4 f5 f6 f8) vs k = outL (its.map (ph f)) (yOf 0 f1 f2 f3 f4 f5 f6 f8) vs k := by
    intro k
    induction k with
    | zero => intro _; rfl
    | succ k ih =>
      intro h
      rw [outL_succ, outL_succ, ih (by omega), line_map f f1 f2 f3 f4 f5 f6 f8 its vs k (by omega)]
  exact this its.length (Nat.le_refl _)
end
/-! ### the items whose texts a format made -/
def mk (f : Int) (x : S36) : S36 := ⟨FF f x.f0, x.f1⟩
theorem okL_map (f : Int) : ∀ (l : List S36) (p : Option Nat), okL p l → (∀ x ∈ l, okT f x.f0) → okL p (l.map (mk f))
  | [], p, _, _ => by unfold okL; trivial
  | x :: t, p, h, hk => by
    obtain ⟨h0, h1, h2, h3, h4⟩ := okL_cons h
    have := okL_map f t _ h4 (fun y hy => hk y (by simp [hy]))
    rw [List.map_cons]
    unfold okL
    exact ⟨h0, by cases p <;> exact h1, FF_good f x.f0 (hk x (by simp)), trivial, this⟩
theorem it_map (f : Int) (l : List S36) : (l.map (mk f)).map it = (l.map it).map (ph f) := by
  rw [List.map_map, List.map_map]
  rfl
section
variable (f1 f2 f3 f4 f5 f6 f7 f8 : ByteArray)
theorem render_steps (f0 : Int) (l : List S36) (hl : l.length ≤ 60) (hok : okL none l) (hk : f0 = 0 ∨ ∀ x ∈ l, kn x.f0) (hy : okStyle f0 f1 f2 f3 f4 f5 f6 f7 f8) :
    impl_ListRender.f (steps 0 l) f0 f1 f2 f3 f4 f5 f6 f7 f8 = some (ofL (outL (l.map it) (yOf f0 f1 f2 f3 f4 f5 f6 f8) (vsOf f5) l.length)) := by
  obtain ⟨lev, h⟩ := run_steps l [] 0 none hok (.inl ⟨rfl, rfl⟩)
  have hs := steps_len l 0 none hok (by simp [pv]) (by omega)
  unfold impl_ListRender.f renderF
  rw [if_pos ⟨by omega, hy⟩, h, Option.bind_some, List.nil_append, if_pos (ok_st f0 l lev hl hok hk), List.length_map]
theorem vs_size (f5 : ByteArray) (h : f5.size ≤ 20) : (vsOf f5).size ≤ 20 := by
  unfold vsOf
  rw [← size_l, ofL_data, Lib.repeatL_length]
  have := Lib.runeCount_le f5
  simp
  omega
theorem styled_of (f0 : Int) (h : BkY.styledF f0 f1 f2 f3 f4 f5 f6 f7 f8 = true) : (∀ x ∈ [f1, f2, f3, f4, f5, f6, f8], x.size ≤ 20) ∧ f0 = 0 ∧ f7 = ⟨#[10]⟩ := by
  unfold BkY.styledF at h
  rw [Bool.and_eq_true, Bool.and_eq_true] at h
  obtain ⟨h1, h2, h3⟩ := h
  unfold BkY.restF at h3
  rw [Bool.and_eq_true] at h3
  refine ⟨fun x hx => ?_, of_decide_eq_true h3.1, ?_⟩
  · have := List.all_eq_true.1 h1 x hx
    unfold BkY.okT at this
    rw [Bool.and_eq_true] at this
    exact of_decide_eq_true this.1
  · have := of_decide_eq_true h3.2
    rw [tl] at this
    rw [← ofL_of f7, this]
    rfl
theorem style_ok (f : Int) (hf : f = 0 ∨ f = 1 ∨ f = 2 ∨ f = 3) (g : ∀ x ∈ [f1, f2, f3, f4, f5, f6, f8], x.size ≤ 20) (h7 : f7 = ⟨#[10]⟩) : okStyle f f1 f2 f3 f4 f5 f6 f7 f8 := by
  have hv := vs_size f5 (g f5 (by simp))
  have e1 := g f1 (by simp)
  have e2 := g f2 (by simp)
  have e3 := g f3 (by simp)
  have e4 := g f4 (by simp)
  have e5 := g f5 (by simp)
  have e6 := g f6 (by simp)
  have e8 := g f8 (by simp)
  refine ⟨hf, h7, ?_⟩
  unfold LstF.shortY yOf
  exact ⟨by show f1.size ≤ 1000; omega, by show f2.size ≤ 1000; omega, by show f3.size ≤ 1000; omega, by show f4.size ≤ 1000; omega, by show f5.size ≤ 1000; omega, by show f6.size ≤ 1000; omega, by show f8.size ≤ 1000; omega, by omega⟩
end
theorem alive : laws_lsAlive.f = some true := by
  unfold laws_lsAlive.f impl_ListRender.f renderF
  have h : run [(⟨0, ⟨#[97]⟩, []⟩ : S57)] ([], 0) = some ([(0, ⟨#[97]⟩)], 0) := run_itm ⟨#[97]⟩ ⟨by decide, by decide⟩ [] 0 []
  have hst : okStyle 0 ⟨#[42]⟩ ⟨#[]⟩ ⟨#[]⟩ ⟨#[]⟩ ⟨#[]⟩ ⟨#[]⟩ ⟨#[10]⟩ ⟨#[]⟩ := style_ok ⟨#[42]⟩ ⟨#[]⟩ ⟨#[]⟩ ⟨#[]⟩ ⟨#[]⟩ ⟨#[]⟩ ⟨#[10]⟩ ⟨#[]⟩ 0 (Or.inl rfl) (by decide) rfl
  rw [if_pos ⟨by decide, hst⟩, h, Option.bind_some, if_pos ?_]
  · have : outL [(0, ⟨#[97]⟩)] (yOf 0 ⟨#[42]⟩ ⟨#[]⟩ ⟨#[]⟩ ⟨#[]⟩ ⟨#[]⟩ ⟨#[]⟩ ⟨#[]⟩) (vsOf ⟨#[]⟩) 1 = [42, 32, 97] := by
      rw [show (1 : Nat) = 0 + 1 from rfl, outL_succ]
      unfold lineL itemL
      rw [show FF (yOf 0 ⟨#[42]⟩ ⟨#[]⟩ ⟨#[]⟩ ⟨#[]⟩ ⟨#[]⟩ ⟨#[]⟩ ⟨#[]⟩).fm (at0 [(0, (⟨#[97]⟩ : ByteArray))] 0).2 = (at0 [(0, (⟨#[97]⟩ : ByteArray))] 0).2 from FF_zero _]
      rfl
    show (some (ofL (outL [(0, ⟨#[97]⟩)] (yOf 0 ⟨#[42]⟩ ⟨#[]⟩ ⟨#[]⟩ ⟨#[]⟩ ⟨#[]⟩ ⟨#[]⟩ ⟨#[]⟩) (vsOf ⟨#[]⟩) 1))).bind _ = _
    rw [this, Option.bind_some]
    rw [tl]
    rfl
  · exact ⟨by decide, by decide⟩
section
variable (l : List S36) (f1 f2 f3 f4 f5 f6 f7 f8 : ByteArray)
theorem fmt_loop (f : Int) (hf : f = 0 ∨ f = 1 ∨ f = 2 ∨ f = 3) (hl : l.length ≤ 60) (hok : okL none l) (hk : ∀ x ∈ l, kn x.f0) (hs : ∀ x ∈ [f1, f2, f3, f4, f5, f6, f8], x.size ≤ 20) (h7 : f7 = ⟨#[10]⟩) (d : Nat) : ∀ i : Nat, i + d = l.length →
    Ev (fun k => laws_FnListFormat.l0 k l ((l.take i).map (mk f) ++ l.drop i) (l.length : Int) (i : Int) 0 f1 f2 f3 f4 f5 f6 f7 f8 f f1 f2 f3 f4 f5 f6 f7 f8) true := by
  have hT : ∀ x ∈ l, okT f x.f0 := fun x hx => ⟨good_of x.f0 (hk x hx).1 (hk x hx).2, Or.inr (hk x hx)⟩
  induction d with
  | zero =>
    intro i hi
    have e0 : (l.take i).map (mk f) ++ l.drop i = l.map (mk f) := by rw [List.take_of_length_le (by omega), List.drop_eq_nil_of_le (by omega), List.append_nil]
    rw [e0]
    have hok2 := okL_map f l none hok hT
    have hl2 : (l.map (mk f)).length ≤ 60 := by rw [List.length_map]; exact hl
    have s1 := steps_ev l hl hok
    have s2 := steps_ev (l.map (mk f)) hl2 hok2
    have r1 := render_steps f1 f2 f3 f4 f5 f6 f7 f8 f l hl hok (Or.inr hk) (style_ok f1 f2 f3 f4 f5 f6 f7 f8 f hf hs h7)
    have r2 := render_steps f1 f2 f3 f4 f5 f6 f7 f8 0 (l.map (mk f)) hl2 hok2 (Or.inl rfl) (style_ok f1 f2 f3 f4 f5 f6 f7 f8 0 (Or.inl rfl) hs h7)
    have ho := out_map f f1 f2 f3 f4 f5 f6 f8 (l.map it) (vsOf f5)
    rw [List.length_map, ← it_map] at ho
    rw [List.length_map, ← ho] at r2
    refine Ev.step (f := fun k => (spec_LsSteps.f k l).bind fun t141 => ((impl_ListRender.f t141 f f1 f2 f3 f4 f5 f6 f7 f8).bind fun t144 => ((spec_LsSteps.f k (l.map (mk f))).bind fun t145 => ((impl_ListRender.f t145 0 f1 f2 f3 f4 f5 f6 f7 f8).bind fun t148 => (if t144.toList = t148.toList then ((laws_lsAlive.f).bind fun t149 => (some t149)) else (some false)))))) (fun k => ?_) ?_
    · simp only [laws_FnListFormat.l0]
      rw [if_neg (by omega)]
    · refine Ev.bind s1 ?_
      rw [r1]
      refine Ev.congr (f := fun k => (spec_LsSteps.f k (l.map (mk f))).bind fun t145 => ((impl_ListRender.f t145 0 f1 f2 f3 f4 f5 f6 f7 f8).bind fun t148 => (if (ofL (outL (l.map it) (yOf f f1 f2 f3 f4 f5 f6 f8) (vsOf f5) l.length)).toList = t148.toList then ((laws_lsAlive.f).bind fun t149 => (some t149)) else (some false)))) (fun k => rfl) ?_
      refine Ev.bind s2 ?_
      rw [r2, alive]
      exact Ev.congr (fun k => by rw [Option.bind_some, if_pos rfl]; rfl) (Ev.now true)
  | succ d ih =>
    intro i hi
    have hlt : i < l.length := by omega
    have hd : l.drop i = l[i] :: l.drop (i + 1) := List.drop_eq_getElem_cons hlt
    have hA : ((l.take i).map (mk f)).length = i := by rw [List.length_map, List.length_take]; omega
    have hrd : rd_T36 ((l.take i).map (mk f) ++ l.drop i) (i : Int) = l[i] := by
      unfold rd_T36
      rw [Int.toNat_natCast, List.getD_eq_getElem?_getD, List.getElem?_append_right (by omega), hA, Nat.sub_self, hd]
      rfl
    have hset : ((l.take i).map (mk f) ++ l.drop i).set i (mk f l[i]) = (l.take (i + 1)).map (mk f) ++ l.drop (i + 1) := by
      rw [List.set_append_right _ _ (by omega), hA, Nat.sub_self, hd, List.set_cons_zero, List.take_succ_eq_append_getElem hlt, List.map_append, List.append_assoc]
      rfl
    have hle : ((l.take i).map (mk f) ++ l.drop i).length = l.length := by rw [List.length_append, hA, List.length_drop]; omega
    refine Ev.step (fun k => ?_) (ih (i + 1) (by omega))
    simp only [laws_FnListFormat.l0]
    rw [if_pos (by omega), if_pos (by omega), if_pos (by rw [hle]; omega), hrd]
    unfold impl_TextFormat.f
    rw [if_pos ⟨hf, hT _ (List.getElem_mem hlt)⟩, Option.bind_some, Int.toNat_natCast, w64 _ (by omega) (by omega)]
    rw [show ((⟨FF f l[i].f0, l[i].f1⟩ : S36)) = mk f l[i] from rfl, hset]
    rfl
theorem j0_true (a2 f0 : Int) : Ev (fun k => laws_FnListFormat.j0 k l a2 true f0 f1 f2 f3 f4 f5 f6 f7 f8) true := Ev.step (f := fun _ => some true) (fun k => by rw [laws_FnListFormat.j0]; rfl) (Ev.now true)
theorem j1_true (a2 f0 : Int) : Ev (fun k => laws_FnListFormat.j1 k l a2 true f0 f1 f2 f3 f4 f5 f6 f7 f8) true := Ev.step (f := fun _ => some true) (fun k => by rw [laws_FnListFormat.j1]; rfl) (Ev.now true)
theorem fits3 (f0 : Int) : ∃ b, laws_zzFits3.f f0 f1 f2 f3 f4 f5 f6 f7 f8 = some b := by
  unfold laws_zzFits3.f
  repeat' split
  all_goals exact ⟨_, rfl⟩
theorem fmt_of (a2 : Int) (w2 : (Lit.int .u8 a2).wf = true) : wrap64 (Int.tmod a2 4) = 0 ∨ wrap64 (Int.tmod a2 4) = 1 ∨ wrap64 (Int.tmod a2 4) = 2 ∨ wrap64 (Int.tmod a2 4) = 3 := by
  have h : 0 ≤ a2 := by
    have := w2
    simp [Lit.wf] at this
    have e : IntKind.u8.min = 0 := rfl
    omega
  have h2 : 0 ≤ Int.tmod a2 4 ∧ Int.tmod a2 4 < 4 := by
    rw [Int.tmod_eq_emod_of_nonneg h]
    omega
  rw [w64 _ (by omega) (by omega)]
  omega
theorem pure (hg0 : (Goods (good36)) l) (f0 : Int) (a2 : Int) (w2 : (Lit.int .u8 a2).wf = true) : ∃ k, laws_FnListFormat.f k l f0 f1 f2 f3 f4 f5 f6 f7 f8 a2 = some true := by
  refine Ev.rounds (g := fun k => laws_FnListFormat.f k l f0 f1 f2 f3 f4 f5 f6 f7 f8 a2) ?_
  obtain ⟨b0, e0, g0⟩ := fits l
  obtain ⟨b1, e1⟩ := fits3 f1 f2 f3 f4 f5 f6 f7 f8 f0
  refine Ev.congr (f := fun k => (laws_zzFits1.f k l).bind fun t157 => (if t157 = true then (laws_FnListFormat.j0 k l a2 (!b1) f0 f1 f2 f3 f4 f5 f6 f7 f8) else (laws_FnListFormat.j0 k l a2 true f0 f1 f2 f3 f4 f5 f6 f7 f8))) (fun k => by unfold laws_FnListFormat.f; rw [e1]; rfl) ?_
  refine Ev.bind e0 ?_
  cases b0 with
  | false => exact j0_true l f1 f2 f3 f4 f5 f6 f7 f8 a2 f0
  | true =>
    refine Ev.congr (f := fun k => laws_FnListFormat.j0 k l a2 (!b1) f0 f1 f2 f3 f4 f5 f6 f7 f8) (fun k => by simp) ?_
    cases b1 with
    | false => exact j0_true l f1 f2 f3 f4 f5 f6 f7 f8 a2 f0
    | true =>
      obtain ⟨r0, q0, d0⟩ := right_ev l (g0 rfl)
      refine Ev.step (f := fun k => (spec_LsRight.f k l).bind fun t129 => (if t129 = true then ((spec_LsStyled.f f0 f1 f2 f3 f4 f5 f6 f7 f8).bind fun t130 => (laws_FnListFormat.j1 k l a2 (!t130) f0 f1 f2 f3 f4 f5 f6 f7 f8)) else (laws_FnListFormat.j1 k l a2 true f0 f1 f2 f3 f4 f5 f6 f7 f8))) (fun k => by rw [laws_FnListFormat.j0]; rfl) ?_
      refine Ev.bind q0 ?_
      cases r0 with
      | false => exact j1_true l f1 f2 f3 f4 f5 f6 f7 f8 a2 f0
      | true =>
        obtain ⟨hl, hok, hk⟩ := d0 rfl
        refine Ev.congr (f := fun k => laws_FnListFormat.j1 k l a2 (!(BkY.styledF f0 f1 f2 f3 f4 f5 f6 f7 f8)) f0 f1 f2 f3 f4 f5 f6 f7 f8) (fun k => by rw [if_pos rfl]; rfl) ?_
        cases hs : BkY.styledF f0 f1 f2 f3 f4 f5 f6 f7 f8 with
        | false => exact j1_true l f1 f2 f3 f4 f5 f6 f7 f8 a2 f0
        | true =>
          obtain ⟨ha, h0, h7⟩ := styled_of f1 f2 f3 f4 f5 f6 f7 f8 f0 hs
          subst h0
          have hL := fmt_loop l f1 f2 f3 f4 f5 f6 f7 f8 (wrap64 (Int.tmod a2 4)) (fmt_of a2 w2) hl hok hk ha h7 l.length 0 (by omega)
          rw [List.take_zero, List.map_nil, List.nil_append, List.drop_zero] at hL
          refine Ev.step (fun k => ?_) hL
          rw [laws_FnListFormat.j1, if_neg (by decide), Option.bind_some, if_pos (by simp; omega), Option.bind_some, List.nil_append]
          rfl
end
end Go.Proofs.YtphnnbbgcnilgaaDoor.PureFnListFormat
