/-
  Proved: a text that is put together of three contains the second, begins with the first and ends with the third; what spec.Plain and table.zzContains return. Conditions: each theorem's own.
-/
import Derived.Test.YtjioibigijflpaaDoorCommon
import Derived.Test.YtjioibigijflpaaDoorGECx
import Derived.Lib.Case
namespace Go.Proofs.YtjioibigijflpaaDoor.MatP
open Go.RowKit Go.Proofs.YtjioibigijflpaaDoorW.PrintWords Go.Proofs.YtjioibigijflpaaDoor.Common Go.Proofs.YtjioibigijflpaaDoor.GEC
set_option linter.unusedVariables false

def lw (fold : Bool) (l : List UInt8) : List UInt8 := if fold = true then Lib.toLowerA l else l
theorem lw_app (fold : Bool) (a b : List UInt8) : lw fold (a ++ b) = lw fold a ++ lw fold b := by
  unfold lw Lib.toLowerA
  split
  · exact List.map_append
  · rfl
theorem lw_len (fold : Bool) (a : List UInt8) : (lw fold a).length = a.length := by
  unfold lw Lib.toLowerA
  split
  · exact List.length_map _
  · rfl
theorem has_front (s y : List UInt8) : hasL s (s ++ y) = true := by
  cases s with
  | nil =>
    cases y with
    | nil => unfold hasL findSub; rfl
    | cons c t => rw [List.nil_append, has_cons]; rfl
  | cons c t =>
    rw [List.cons_append, has_cons, ← List.cons_append, Bool.or_eq_true]
    exact .inl (List.isPrefixOf_iff_prefix.2 (List.prefix_append _ _))
theorem has_mid (s y : List UInt8) : ∀ x : List UInt8, hasL s (x ++ (s ++ y)) = true
  | [] => has_front s y
  | c :: t => by rw [List.cons_append, has_cons, has_mid s y t, Bool.or_true]
/-- what the closure answers -/
def askB (fold : Bool) (t : List UInt8) (op : Int) (s : List UInt8) : Bool :=
  if op = 6 then hasL (lw fold s) (lw fold t) else if op = 7 then !(hasL (lw fold s) (lw fold t)) else if op = 8 then Lib.hasPrefix (lw fold t) (lw fold s) else Lib.hasSuffix (lw fold t) (lw fold s)
theorem ask6 (fold : Bool) (a b c : List UInt8) : askB fold (a ++ b ++ c) 6 b = true := by
  unfold askB
  rw [if_pos rfl, List.append_assoc, lw_app, lw_app]
  exact has_mid _ _ _
theorem ask7 (fold : Bool) (a b c : List UInt8) : askB fold (a ++ b ++ c) 7 b = false := by
  unfold askB
  rw [if_neg (by decide), if_pos rfl, List.append_assoc, lw_app, lw_app, has_mid]
  rfl
theorem ask8 (fold : Bool) (a y : List UInt8) : askB fold (a ++ y) 8 a = true := by
  unfold askB Lib.hasPrefix
  rw [if_neg (by decide), if_neg (by decide), if_pos rfl, lw_app]
  exact List.isPrefixOf_iff_prefix.2 (List.prefix_append _ _)
theorem ask9 (fold : Bool) (x c : List UInt8) : askB fold (x ++ c) 9 c = true := by
  unfold askB Lib.hasSuffix
  rw [if_neg (by decide), if_neg (by decide), if_neg (by decide), lw_app]
  exact List.isSuffixOf_iff_suffix.2 (List.suffix_append _ _)
theorem ofL_size (l : List UInt8) : (ofL l).size = l.length := by rw [← size_l, ofL_data]
theorem has_c (t s : List UInt8) (ht : t.length ≤ 1000) (hs : s.length ≤ 1000) (W : World) :
    Calls Tryd.prog 37 #[.string (ofL t), .string (ofL s)] W fun e w' => e = .returned (.bool (hasL s t)) ∧ Drawn0 W w' := by
  have h := index_ev table_zzIndex.l0 (fun k x0 x1 x5 => by simp only [table_zzIndex.l0]) (ofL t) (ofL s) (by rw [ofL_size]; omega) (by rw [ofL_size]; omega)
  rw [ofL_data, ofL_data] at h
  obtain ⟨k, hk⟩ := Ev.rounds (g := fun k => table_zzContains.f k (ofL t) (ofL s)) (Ev.bind (g := fun k => table_zzIndex.f k (ofL t) (ofL s)) (f := fun _ v => some (decide (v ≥ 0))) h (Ev.now _))
  rw [has_of_idx] at hk
  exact table_zzContains.calls k _ _ _ W hk
def okc (c : UInt8) : Prop := c.toNat < 128
theorem plain_ev (s : ByteArray) (hs : s.size ≤ 4611686018427387904) : ∀ d i : Nat, i + d = s.size → ∃ b, Ev (fun k => spec_Plain.l0 k s (i : Int)) b ∧ (b = true → ∀ c ∈ s.data.toList.drop i, okc c)
  | 0, i, h => by
    refine ⟨true, Ev.step (f := fun _ => some true) (fun k => ?_) (Ev.now _), fun _ c hc => ?_⟩
    · simp only [spec_Plain.l0]; rw [if_neg (by omega)]
    · rw [List.drop_eq_nil_of_le (by rw [size_l]; omega)] at hc; cases hc
  | d + 1, i, h => by
    have hi : i < s.size := by omega
    obtain ⟨b, hb, hc⟩ := plain_ev s hs d (i + 1) (by omega)
    obtain ⟨x, hx⟩ : ∃ x, x = s.data.toList[i]'(by rw [size_l]; exact hi) := ⟨_, rfl⟩
    have hbt := bt_get s i hi
    rw [← hx] at hbt
    have hd : s.data.toList.drop i = x :: s.data.toList.drop (i + 1) := by rw [hx]; exact List.drop_eq_getElem_cons (by rw [size_l]; exact hi)
    have hw : wrap64 ((i : Int) + 1) = ((i + 1 : Nat) : Int) := by rw [w64 _ (by omega) (by omega)]; rfl
    have all : x.toNat < 128 → (b = true → ∀ c ∈ s.data.toList.drop i, okc c) := fun hx2 hbt c hm => by
      rw [hd] at hm
      rcases List.mem_cons.1 hm with rfl | hm
      · exact hx2
      · exact hc hbt c hm
    by_cases c1 : (x.toNat : Int) = 10
    · refine ⟨b, Ev.step (fun k => ?_) hb, all (by omega)⟩
      simp only [spec_Plain.l0]
      rw [if_pos (by omega), if_pos (by omega), hbt, if_pos c1, hw]
    · by_cases c2 : (x.toNat : Int) < 32
      · refine ⟨false, Ev.step (f := fun _ => some false) (fun k => ?_) (Ev.now _), fun h => by cases h⟩
        simp only [spec_Plain.l0]
        rw [if_pos (by omega), if_pos (by omega), hbt, if_neg c1, if_pos c2]
      · by_cases c3 : (x.toNat : Int) > 126
        · refine ⟨false, Ev.step (f := fun _ => some false) (fun k => ?_) (Ev.now _), fun h => by cases h⟩
          simp only [spec_Plain.l0]
          rw [if_pos (by omega), if_pos (by omega), hbt, if_neg c1, if_neg c2, if_pos c3]
        · refine ⟨b, Ev.step (fun k => ?_) hb, all (by omega)⟩
          simp only [spec_Plain.l0]
          rw [if_pos (by omega), if_pos (by omega), hbt, if_neg c1, if_neg c2, if_neg c3, hw]
theorem plain_c (l : List UInt8) (hl : l.length ≤ 1000) : ∃ b, (b = true → ∀ c ∈ l, okc c) ∧ ∀ W : World, Calls Tryd.prog 5 #[.string (ofL l)] W fun e w' => e = .returned (.bool b) ∧ Drawn0 W w' := by
  obtain ⟨b, hb, hc⟩ := plain_ev (ofL l) (by rw [ofL_size]; omega) (ofL l).size 0 (by omega)
  obtain ⟨k, hk⟩ := Ev.rounds hb
  refine ⟨b, fun h c hm => hc h c (by rw [ofL_data]; simpa using hm), fun W => spec_Plain.calls k _ _ W hk⟩
end Go.Proofs.YtjioibigijflpaaDoor.MatP
