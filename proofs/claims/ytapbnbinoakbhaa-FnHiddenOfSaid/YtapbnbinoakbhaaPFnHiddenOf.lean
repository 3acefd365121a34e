/-
  Proved: the plain law behind Rows.FnHiddenOfSaid, over numbers and lists alone. Conditions: none beyond the statement's own.
-/
import Derived.Test.YtapbnbinoakbhaaRead
import Derived.Test.YtapbnbinoakbhaaGFnHiddenOfx2
namespace Go.Proofs.Ytapbnbinoakbhaa.PureFnHiddenOf
set_option linter.unusedVariables false
open Go.RowKit Go.Proofs.YtapbnbinoakbhaaW.PrintWords Go.Proofs.YtapbnbinoakbhaaW.PrintMore Go.Proofs.Ytapbnbinoakbhaa.Common Go.Proofs.Ytapbnbinoakbhaa.Read Go.Proofs.Ytapbnbinoakbhaa.GFnHiddenOf Go.Proofs.Ytapbnbinoakbhaa.GivenHide Go.Proofs.Ytapbnbinoakbhaa.HidB Go.Proofs.Ytapbnbinoakbhaa.HidC

theorem rd1 (l : List (List ByteArray)) (i : Nat) (h : i < l.length) : rd_L1 l (i : Int) = l[i] := by
  simp [rd_L1, List.getD_eq_getElem?_getD, List.getElem?_eq_getElem h]
theorem fits19 (l : List (List ByteArray)) : ∃ b, Ev (fun k => laws_zzFits19.f k l) b ∧ (b = true → ∀ r ∈ l, r.length ≤ 2147483647) := by
  have hr := fun r : List ByteArray => fits4 laws_zzFits4.l0 (fun k x8 x9 x10 => by simp only [laws_zzFits4.l0]) laws_zzFits4.f (fun k l => by unfold laws_zzFits4.f; rfl) r
  by_cases h : (l.length : Int) > 2147483647
  · exact ⟨false, ⟨0, fun k _ => by show laws_zzFits19.f k l = _; unfold laws_zzFits19.f; rw [if_pos h]⟩, fun h => by cases h⟩
  · have go : ∀ d i : Nat, i + d = l.length → ∃ b, Ev (fun k => laws_zzFits19.l0 k l (l.length : Int) (i : Int)) b ∧ (b = true → ∀ r ∈ l.drop i, r.length ≤ 2147483647) := by
      intro d
      induction d with
      | zero =>
        intro i hi
        refine ⟨true, Ev.step (f := fun _ => some true) (fun k => ?_) (Ev.now true), fun _ s hs => ?_⟩
        · simp only [laws_zzFits19.l0]; rw [if_neg (by omega)]
        · rw [List.drop_eq_nil_of_le (by omega)] at hs; simp at hs
      | succ d ih =>
        intro i hi
        have hlt : i < l.length := by omega
        obtain ⟨b, hb, hbs⟩ := hr l[i]
        obtain ⟨b2, hb2, hs2⟩ := ih (i + 1) (by omega)
        refine ⟨b && b2, Ev.step (f := fun k => (laws_zzFits4.f k l[i]).bind fun t => if t = true then laws_zzFits19.l0 k l (l.length : Int) ((i + 1 : Nat) : Int) else some false) (fun k => ?_) (Ev.bind (f := fun k t => if t = true then laws_zzFits19.l0 k l (l.length : Int) ((i + 1 : Nat) : Int) else some false) hb ?_), fun ht s hm => ?_⟩
        · simp only [laws_zzFits19.l0]
          rw [if_pos (by omega), if_pos (by omega), if_pos (by omega), rd1 _ _ hlt, w64 _ (by omega) (by omega)]
          rfl
        · cases b with
          | true => simpa using hb2
          | false => exact Ev.now false
        · rw [Bool.and_eq_true] at ht
          rw [List.drop_eq_getElem_cons hlt] at hm
          rcases List.mem_cons.1 hm with rfl | hm
          · exact (hbs ht.1).1
          · exact hs2 ht.2 s hm
    obtain ⟨b, hb, hs⟩ := go l.length 0 (by omega)
    refine ⟨b, Ev.congr (fun k => ?_) hb, fun hbt => by simpa using hs hbt⟩
    show laws_zzFits19.f k l = _
    unfold laws_zzFits19.f
    rw [if_neg h]
    rfl
theorem row_loop (l : List (List ByteArray)) (l1 : List Bool) (hl : l.length ≤ 100) (h1 : l1.length ≤ 100) (hr : ∀ r ∈ l, r.length ≤ 2147483647) (i : Nat) (hi : i < l.length) (x6 : List (List ByteArray)) (x7 : Int) (hx6 : x6.length ≤ 100) (res : List (List ByteArray) × Int)
    (h : Ev (fun k => spec_HiddenOf.l0 k l l1 (x6 ++ [hidRow (hdl l1) l[i]]) (mx x7 ((hidRow (hdl l1) l[i]).length : Int)) ((i + 1 : Nat) : Int)) res) :
    ∀ d j : Nat, j + d = l[i].length → Ev (fun k => spec_HiddenOf.l1 k l l1 x6 x7 (i : Int) (hidTo (hdl l1) l[i] j) (j : Int)) res
  | 0, j, hj => by
    refine Ev.step (fun k => ?_) h
    have hr1 := rd1 l i hi
    simp only [spec_HiddenOf.l1]
    rw [if_pos (by omega), if_pos (by omega), hr1, if_neg (by omega), if_pos (by omega), w64 _ (by omega) (by omega)]
    have : j = l[i].length := by omega
    subst this
    rfl
  | d + 1, j, hj => by
    have ih := row_loop l l1 hl h1 hr i hi x6 x7 hx6 res h d (j + 1) (by omega)
    have hr1 := rd1 l i hi
    have hri := hr l[i] (List.getElem_mem hi)
    have hlen := hidTo_len (hdl l1) l[i] j
    refine Ev.step (fun k => ?_) ih
    simp only [spec_HiddenOf.l1]
    rw [if_pos (by omega), if_pos (by omega), hr1, if_pos (by omega)]
    by_cases c : (j : Int) ≥ (l1.length : Int)
    · have hd : hdl l1 j = false := by unfold hdl hdn; rw [decide_eq_false (by omega)]; rfl
      rw [if_pos c, if_pos (by omega), if_pos (by omega), hidTo_no _ _ _ hd, w64 _ (by omega) (by omega)]
      rfl
    · have hjl : j < l1.length := by omega
      have hd : hdl l1 j = l1[j] := by
        unfold hdl hdn
        simp only [decide_eq_true hjl, Bool.true_and, List.getD_eq_getElem?_getD, List.getElem?_eq_getElem hjl, Option.getD_some]
      rw [if_neg c, if_pos (by omega), if_pos (by omega), rdOf_at _ _ _ hjl, ← hd, w64 _ (by omega) (by omega)]
      cases hb : hdl l1 j with
      | true => rw [if_pos rfl, hidTo_yes _ _ _ hb]; rfl
      | false => rw [if_neg (by decide), if_pos (by omega), hidTo_no _ _ _ hb]; rfl
theorem spec_loop (l : List (List ByteArray)) (l1 : List Bool) (hl : l.length ≤ 100) (h1 : l1.length ≤ 100) (hr : ∀ r ∈ l, r.length ≤ 2147483647) :
    ∀ d i : Nat, i + d = l.length → Ev (fun k => spec_HiddenOf.l0 k l l1 (rowsTo (hdl l1) l i) (numTo (hdl l1) l 0 i : Nat) (i : Int)) (rowsTo (hdl l1) l l.length, ((numTo (hdl l1) l 0 l.length : Nat) : Int))
  | 0, i, hi => by
    obtain rfl : i = l.length := by omega
    refine Ev.step (f := fun _ => some _) (fun k => ?_) (Ev.now _)
    simp only [spec_HiddenOf.l0]
    rw [if_neg (by omega)]
  | d + 1, i, hi => by
    have hil : i < l.length := by omega
    have ih := spec_loop l l1 hl h1 hr d (i + 1) (by omega)
    have hr1 := rd1 l i hil
    have hr2 : GEZ.rd_L1 l (i : Int) = l[i] := hr1
    have e1 : rowsTo (hdl l1) l (i + 1) = rowsTo (hdl l1) l i ++ [hidRow (hdl l1) l[i]] := by
      show rowsTo (hdl l1) l i ++ [hidRow (hdl l1) (GEZ.rd_L1 l (i : Int))] = _
      rw [hr2]
    have e2 : ((numTo (hdl l1) l 0 (i + 1) : Nat) : Int) = mx (numTo (hdl l1) l 0 i : Nat) ((hidRow (hdl l1) l[i]).length : Int) := by
      show (((if numTo (hdl l1) l 0 i < (hidRow (hdl l1) (GEZ.rd_L1 l (i : Int))).length then (hidRow (hdl l1) (GEZ.rd_L1 l (i : Int))).length else numTo (hdl l1) l 0 i) : Nat) : Int) = _
      rw [hr2]
      unfold mx
      by_cases h : numTo (hdl l1) l 0 i < (hidRow (hdl l1) l[i]).length
      · rw [if_pos h, if_pos (by omega)]
      · rw [if_neg h, if_neg (by omega)]
    rw [e1, e2] at ih
    have hz := row_loop l l1 hl h1 hr i hil (rowsTo (hdl l1) l i) (numTo (hdl l1) l 0 i : Nat) (by rw [rowsTo_len]; omega) _ ih l[i].length 0 (by omega)
    refine Ev.step (fun k => ?_) hz
    simp only [spec_HiddenOf.l0]
    rw [if_pos (by omega)]
    rfl
theorem same_row (g : List (List ByteArray)) (hg : g.length ≤ 100) (hr : ∀ r ∈ g, r.length ≤ 2147483647) (i : Nat) (hi : i < g.length) (h : Ev (fun k => spec_SameGrid.l0 k g g ((i + 1 : Nat) : Int)) true) :
    ∀ d j : Nat, j + d = g[i].length → Ev (fun k => spec_SameGrid.l1 k g g (i : Int) (j : Int)) true
  | 0, j, hj => by
    refine Ev.step (fun k => ?_) h
    have hr1 := rd1 g i hi
    simp only [spec_SameGrid.l1]
    rw [if_pos (by omega), if_pos (by omega), hr1, if_neg (by omega), w64 _ (by omega) (by omega)]
    rfl
  | d + 1, j, hj => by
    have ih := same_row g hg hr i hi h d (j + 1) (by omega)
    have hr1 := rd1 g i hi
    have hri := hr g[i] (List.getElem_mem hi)
    refine Ev.step (fun k => ?_) ih
    simp only [spec_SameGrid.l1]
    rw [if_pos (by omega), if_pos (by omega), hr1, if_pos (by omega), if_pos (by omega), if_pos (by omega), if_pos (by omega), if_pos trivial, w64 _ (by omega) (by omega)]
    rfl
theorem same_loop (g : List (List ByteArray)) (hg : g.length ≤ 100) (hr : ∀ r ∈ g, r.length ≤ 2147483647) : ∀ d i : Nat, i + d = g.length → Ev (fun k => spec_SameGrid.l0 k g g (i : Int)) true
  | 0, i, hi => by
    refine Ev.step (f := fun _ => some true) (fun k => ?_) (Ev.now _)
    simp only [spec_SameGrid.l0]
    rw [if_neg (by omega)]
  | d + 1, i, hi => by
    have hil : i < g.length := by omega
    have ih := same_loop g hg hr d (i + 1) (by omega)
    have hz := same_row g hg hr i hil ih g[i].length 0 (by omega)
    refine Ev.step (fun k => ?_) hz
    simp only [spec_SameGrid.l0]
    rw [if_pos (by omega), if_pos (by omega), if_pos (by omega), if_pos trivial]
    rfl
theorem rowsTo_rows (hd : Nat → Bool) (l : List (List ByteArray)) (hr : ∀ r ∈ l, r.length ≤ 2147483647) : ∀ i, i ≤ l.length → ∀ r ∈ rowsTo hd l i, r.length ≤ 2147483647
  | 0, _, r, h => by cases h
  | i + 1, hi, r, h => by
    rcases List.mem_append.1 h with h | h
    · exact rowsTo_rows hd l hr i (by omega) r h
    · rw [List.mem_singleton] at h
      subst h
      have hil : i < l.length := by omega
      have := hidTo_len hd (GEZ.rd_L1 l (i : Int)) (GEZ.rd_L1 l (i : Int)).length
      have h2 : GEZ.rd_L1 l (i : Int) = l[i] := rd1 l i hil
      have h3 := hr l[i] (List.getElem_mem hil)
      rw [← h2] at h3
      exact Nat.le_trans this h3
theorem jt (l0 : List (List ByteArray)) (l1 : List Bool) : Ev (fun k => laws_FnHiddenOf.j0 k l0 l1 true) true :=
  Ev.step (f := fun _ => some true) (fun k => by simp only [laws_FnHiddenOf.j0]; rfl) (Ev.now _)
theorem jt1 (l0 : List (List ByteArray)) (l1 : List Bool) : Ev (fun k => laws_FnHiddenOf.j1 k l0 l1 true) true :=
  Ev.step (f := fun _ => some true) (fun k => by simp only [laws_FnHiddenOf.j1]; rfl) (Ev.now _)
theorem jf (l0 : List (List ByteArray)) (l1 : List Bool) (hr : ∀ r ∈ l0, r.length ≤ 2147483647) : Ev (fun k => laws_FnHiddenOf.j0 k l0 l1 false) true := by
  by_cases c1 : (l0.length : Int) > 100
  · refine Ev.step (fun k => ?_) (jt1 l0 l1)
    simp only [laws_FnHiddenOf.j0]
    rw [if_neg (by decide), if_pos c1]
  · by_cases c2 : (l1.length : Int) > 100
    · refine Ev.step (fun k => ?_) (jt1 l0 l1)
      simp only [laws_FnHiddenOf.j0]
      rw [if_neg (by decide), if_neg c1, decide_eq_true c2]
    · have hg := rowsTo_rows (hdl l1) l0 hr l0.length (Nat.le_refl _)
      have hgl := rowsTo_len (hdl l1) l0 l0.length
      have hs := spec_loop l0 l1 (by omega) (by omega) hr l0.length 0 (by omega)
      have hm := same_loop (rowsTo (hdl l1) l0 l0.length) (by omega) hg (rowsTo (hdl l1) l0 l0.length).length 0 (by omega)
      have hok : okh l0 l1 = true := decide_eq_true ⟨by omega, by omega, hr⟩
      have h1 : Ev (fun k => laws_FnHiddenOf.j1 k l0 l1 false) true := by
        refine Ev.step (f := fun k => (spec_HiddenOf.l0 k l0 l1 (rowsTo (hdl l1) l0 0) (numTo (hdl l1) l0 0 0 : Nat) ((0 : Nat) : Int)).bind fun bt => if ((numTo (hdl l1) l0 0 l0.length : Nat) : Int) = bt.2 then ((spec_SameGrid.f k (rowsTo (hdl l1) l0 l0.length) bt.1).bind fun t => some t) else some false) (fun k => ?_) (Ev.bind (f := fun k bt => if ((numTo (hdl l1) l0 0 l0.length : Nat) : Int) = bt.2 then ((spec_SameGrid.f k (rowsTo (hdl l1) l0 l0.length) bt.1).bind fun t => some t) else some false) hs ?_)
        · simp only [laws_FnHiddenOf.j1]
          unfold impl_HiddenOf.f
          rw [if_neg (by decide), if_pos hok]
          rfl
        · refine Ev.congr (f := fun k => spec_SameGrid.l0 k (rowsTo (hdl l1) l0 l0.length) (rowsTo (hdl l1) l0 l0.length) ((0 : Nat) : Int)) (fun k => ?_) hm
          show (if _ then _ else _) = _
          rw [if_pos rfl]
          unfold spec_SameGrid.f
          rw [if_pos rfl]
          show Option.bind (spec_SameGrid.l0 k _ _ 0) _ = spec_SameGrid.l0 k _ _ 0
          cases spec_SameGrid.l0 k (rowsTo (hdl l1) l0 l0.length) (rowsTo (hdl l1) l0 l0.length) 0 <;> rfl
      refine Ev.step (fun k => ?_) h1
      simp only [laws_FnHiddenOf.j0]
      rw [if_neg (by decide), if_neg c1, decide_eq_false c2]
theorem pure (l0 : List (List ByteArray)) (hg0 : (Goods ((Goods (fun s => s.size ≤ maxLen)))) l0) (l1 : List Bool) (hg1 : (Goods (fun _ => True)) l1) : ∃ k, laws_FnHiddenOf.f k l0 l1 = some true := by
  obtain ⟨b, hb, hr⟩ := fits19 l0
  refine Ev.rounds (Ev.bind (f := fun k t => if t = true then laws_FnHiddenOf.j0 k l0 l1 (decide ((l1.length : Int) > 2147483647)) else laws_FnHiddenOf.j0 k l0 l1 true) hb ?_)
  cases b with
  | false => exact jt l0 l1
  | true =>
    by_cases c : (l1.length : Int) > 2147483647
    · simp only [if_true, decide_eq_true c]
      exact jt l0 l1
    · simp only [if_true, decide_eq_false c]
      exact jf l0 l1 (hr rfl)

end Go.Proofs.Ytapbnbinoakbhaa.PureFnHiddenOf
