/-
  Proved: the plain law behind Rows.FnHtmlCellSaid, over numbers and lists alone. Conditions: none beyond the statement's own.
-/
import Derived.Test.YtehlfbhlaoiioaaGreatDoorRRead
import Derived.Test.YtehlfbhlaoiioaaGreatDoorRGFnHtmlCellx1
namespace Go.Proofs.YtehlfbhlaoiioaaGreatDoorR.PureFnHtmlCell
set_option linter.unusedVariables false
open Go.RowKit Go.Proofs.YtehlfbhlaoiioaaGreatDoorRW.PrintWords Go.Proofs.YtehlfbhlaoiioaaGreatDoorR.Read Go.Proofs.YtehlfbhlaoiioaaGreatDoorR.GFnHtmlCell Go.Proofs.YtehlfbhlaoiioaaGreatDoorR.GivenHtm Go.Proofs.YtehlfbhlaoiioaaGreatDoorR.Common Go.Proofs.YtehlfbhlaoiioaaGreatDoorR.HtmP

theorem ofL_size (l : List UInt8) : (ofL l).size = l.length := by rw [← size_l, ofL_data]
theorem ofL_app (a b : List UInt8) : ofL a ++ ofL b = ofL (a ++ b) := by apply WideShapes.bytes_inj; simp [ofL]
/-! ### Escaped -/
theorem escaped_loop (s : ByteArray) (hs : s.size ≤ 1000000) (d : Nat) : ∀ (i : Nat) (acc : List UInt8), i + d = s.size → acc.length + 5 * d ≤ 100000000 → Ev (fun k => spec_Escaped.l0 k s (ofL acc) (i : Int)) (ofL (acc ++ escL (s.data.toList.drop i))) := by
  induction d with
  | zero =>
    intro i acc hi ha
    rw [List.drop_eq_nil_of_le (by rw [size_l]; omega)]
    refine Ev.step (f := fun _ => some (ofL (acc ++ escL []))) (fun k => ?_) (Ev.now _)
    simp only [spec_Escaped.l0]
    rw [if_neg (by omega)]
    simp [escL]
  | succ d ih =>
    intro i acc hi ha
    have hlt : i < s.size := by omega
    have hlt' : i < s.data.toList.length := by rw [size_l]; exact hlt
    obtain ⟨c, hc⟩ : ∃ c, c = s.data.toList[i] := ⟨_, rfl⟩
    have hbt : bt s (i : Int) = (c.toNat : Int) := by rw [bt_get s i hlt, hc]
    have hd : s.data.toList.drop i = c :: s.data.toList.drop (i + 1) := by rw [hc]; exact List.drop_eq_getElem_cons hlt'
    have hw : wrap64 ((i : Int) + 1) = ((i + 1 : Nat) : Int) := by rw [w64 _ (by omega) (by omega)]; rfl
    have hex : s.extract i (i + 1) = ofL [c] := by rw [extract_ofL, hd, show i + 1 - i = 1 by omega]; rfl
    have h5 := escOne_len c
    have h1 := ih (i + 1) (acc ++ escOne c) (by omega) (by rw [List.length_append]; omega)
    rw [hd, escL, List.flatMap_cons, ← escL, ← List.append_assoc]
    refine Ev.step (f := fun k => spec_Escaped.l0 k s (ofL (acc ++ escOne c)) ((i + 1 : Nat) : Int)) (fun k => ?_) h1
    have nat_eq : ∀ m : UInt8, ((c.toNat : Int) = (m.toNat : Int)) ↔ c = m := fun m => ⟨fun e => UInt8.toNat_inj.1 (by omega), fun e => by rw [e]⟩
    have m60 : ((c.toNat : Int) = 60) ↔ c = 60 := nat_eq 60
    have m62 : ((c.toNat : Int) = 62) ↔ c = 62 := nat_eq 62
    have m38 : ((c.toNat : Int) = 38) ↔ c = 38 := nat_eq 38
    have m39 : ((c.toNat : Int) = 39) ↔ c = 39 := nat_eq 39
    have m34 : ((c.toNat : Int) = 34) ↔ c = 34 := nat_eq 34
    simp only [spec_Escaped.l0]
    rw [if_pos (by omega), if_pos (by omega), hbt, hw, ← ofL_app]
    by_cases e3 : c = 38
    · rw [if_pos (m38.2 e3), if_pos (by rw [ofL_size]; omega), e3]; rfl
    · rw [if_neg (fun e => e3 (m38.1 e))]
      by_cases e1 : c = 60
      · rw [if_pos (m60.2 e1), if_pos (by rw [ofL_size]; omega), e1]; rfl
      · rw [if_neg (fun e => e1 (m60.1 e))]
        by_cases e2 : c = 62
        · rw [if_pos (m62.2 e2), if_pos (by rw [ofL_size]; omega), e2]; rfl
        · rw [if_neg (fun e => e2 (m62.1 e))]
          by_cases e5 : c = 34
          · rw [if_pos (m34.2 e5), if_pos (by rw [ofL_size]; omega), e5]; rfl
          · rw [if_neg (fun e => e5 (m34.1 e))]
            by_cases e4 : c = 39
            · rw [if_pos (m39.2 e4), if_pos (by rw [ofL_size]; omega), e4]; rfl
            · rw [if_neg (fun e => e4 (m39.1 e)), if_pos (by omega), if_pos (by omega), Int.toNat_natCast, Int.toNat_natCast, hex, if_pos (by rw [ofL_size, ofL_size, List.length_singleton]; omega)]
              have he : escOne c = [c] := by unfold escOne; rw [if_neg e1, if_neg e2, if_neg e3, if_neg e4, if_neg e5]
              rw [he]
theorem escaped_e (s : ByteArray) (hs : s.size ≤ 1000000) : Ev (fun k => spec_Escaped.f k s) (ofL (escL s.data.toList)) := by
  have h := escaped_loop s hs s.size 0 [] (by omega) (by simp; omega)
  rw [List.drop_zero, List.nil_append] at h
  exact h
/-! ### Cut -/
def pre (cur : List UInt8) : List (List UInt8) → List (List UInt8)
  | [] => [cur]
  | h :: r => (cur ++ h) :: r
theorem pre_nil (l : List UInt8) : pre [] (partsOf 10 l) = partsOf 10 l := by
  cases h : partsOf 10 l with
  | nil => exact absurd h (partsOf_ne 10 l)
  | cons a r => rfl
theorem parts_len : ∀ l : List UInt8, (partsOf 10 l).length ≤ l.length + 1
  | [] => by simp [partsOf]
  | d :: t => by
    have ih := parts_len t
    unfold partsOf
    split
    · simp only [List.length_cons]; omega
    · cases h : partsOf 10 t with
      | nil => simp
      | cons a r => rw [h] at ih; simp only [List.length_cons] at ih ⊢; omega
theorem cut_loop (s : ByteArray) (hs : s.size ≤ 1000000) (d : Nat) : ∀ (i f : Nat) (acc : List ByteArray), i + d = s.size → f ≤ i → acc.length + d ≤ 3000000 →
    Ev (fun k => spec_Cut.l0 k s acc (f : Int) (i : Int)) (acc ++ (pre ((s.data.toList.drop f).take (i - f)) (partsOf 10 (s.data.toList.drop i))).map ofL) := by
  induction d with
  | zero =>
    intro i f acc hi hf ha
    have hw : wrap64 ((i : Int) + 1) = ((i + 1 : Nat) : Int) := by rw [w64 _ (by omega) (by omega)]; rfl
    rw [List.drop_eq_nil_of_le (show s.data.toList.length ≤ i by rw [size_l]; omega)]
    have hE : pre ((s.data.toList.drop f).take (i - f)) (partsOf 10 []) = [(s.data.toList.drop f).take (i - f)] := by simp [partsOf, pre]
    rw [hE, List.map_singleton, ← extract_ofL]
    refine Ev.step (f := fun k => spec_Cut.l0 k s (acc ++ [s.extract f i]) ((i + 1 : Nat) : Int) ((i + 1 : Nat) : Int)) (fun k => ?_) (Ev.step (f := fun _ => some (acc ++ [s.extract f i])) (fun k => ?_) (Ev.now _))
    · simp only [spec_Cut.l0]
      rw [if_pos (by omega), if_pos (by omega), if_pos (by omega), if_pos (by omega), if_pos (by omega), hw, Int.toNat_natCast, Int.toNat_natCast]
    · simp only [spec_Cut.l0]
      rw [if_neg (by omega)]
  | succ d ih =>
    intro i f acc hi hf ha
    have hlt : i < s.size := by omega
    have hlt' : i < s.data.toList.length := by rw [size_l]; exact hlt
    obtain ⟨c, hc⟩ : ∃ c, c = s.data.toList[i] := ⟨_, rfl⟩
    have hbt : bt s (i : Int) = (c.toNat : Int) := by rw [bt_get s i hlt, hc]
    have hd : s.data.toList.drop i = c :: s.data.toList.drop (i + 1) := by rw [hc]; exact List.drop_eq_getElem_cons hlt'
    have hw : wrap64 ((i : Int) + 1) = ((i + 1 : Nat) : Int) := by rw [w64 _ (by omega) (by omega)]; rfl
    have m10 : ((c.toNat : Int) = 10) ↔ c = 10 := ⟨fun e => UInt8.toNat_inj.1 (by have : (10 : UInt8).toNat = 10 := rfl; omega), fun e => by rw [e]; rfl⟩
    rw [hd]
    by_cases e : c = 10
    · have h1 := ih (i + 1) (i + 1) (acc ++ [s.extract f i]) (by omega) (by omega) (by simp; omega)
      rw [Nat.sub_self, List.take_zero, pre_nil] at h1
      have hE : pre ((s.data.toList.drop f).take (i - f)) (partsOf 10 (c :: s.data.toList.drop (i + 1))) = (s.data.toList.drop f).take (i - f) :: partsOf 10 (s.data.toList.drop (i + 1)) := by
        rw [partsOf, if_pos e, pre, List.append_nil]
      rw [hE, List.map_cons, ← extract_ofL]
      rw [List.append_assoc, List.singleton_append] at h1
      refine Ev.step (f := fun k => spec_Cut.l0 k s (acc ++ [s.extract f i]) ((i + 1 : Nat) : Int) ((i + 1 : Nat) : Int)) (fun k => ?_) h1
      simp only [spec_Cut.l0]
      rw [if_pos (by omega), if_neg (by omega), if_pos (by omega), if_pos (by omega), hbt, if_pos (m10.2 e), if_pos (by omega), if_pos (by omega), if_pos (by omega), hw, Int.toNat_natCast, Int.toNat_natCast]
    · have h1 := ih (i + 1) f acc (by omega) (by omega) (by omega)
      have hT : (s.data.toList.drop f).take (i + 1 - f) = (s.data.toList.drop f).take (i - f) ++ [c] := by
        have hlt2 : i - f < (s.data.toList.drop f).length := by rw [List.length_drop, size_l]; omega
        rw [show i + 1 - f = (i - f) + 1 by omega, List.take_succ_eq_append_getElem hlt2]
        congr 2
        rw [List.getElem_drop, hc]
        congr 1
        omega
      have hE : pre ((s.data.toList.drop f).take (i - f)) (partsOf 10 (c :: s.data.toList.drop (i + 1))) = pre ((s.data.toList.drop f).take (i + 1 - f)) (partsOf 10 (s.data.toList.drop (i + 1))) := by
        rw [partsOf, if_neg e, hT]
        cases h : partsOf 10 (s.data.toList.drop (i + 1)) with
        | nil => exact absurd h (partsOf_ne 10 _)
        | cons a r => simp [pre]
      rw [hE]
      refine Ev.step (f := fun k => spec_Cut.l0 k s acc (f : Int) ((i + 1 : Nat) : Int)) (fun k => ?_) h1
      simp only [spec_Cut.l0]
      rw [if_pos (by omega), if_neg (by omega), if_pos (by omega), if_pos (by omega), hbt, if_neg (fun h => e (m10.1 h)), hw]
theorem cut_e (s : ByteArray) (hs : s.size ≤ 1000000) : Ev (fun k => spec_Cut.f k s) ((partsOf 10 s.data.toList).map ofL) := by
  have h := cut_loop s hs s.size 0 0 [] (by omega) (by omega) (by simp; omega)
  rw [List.drop_zero, Nat.sub_self, List.take_zero, pre_nil, List.nil_append] at h
  exact h
/-! ### the parts joined -/
def joinP (new : List UInt8) : List (List UInt8) → List UInt8
  | [] => []
  | h :: r => h ++ r.flatMap fun p => new ++ p
theorem join_parts (new : List UInt8) : ∀ l : List UInt8, joinP new (partsOf 10 l) = nlL new l
  | [] => rfl
  | d :: t => by
    have ih := join_parts new t
    have hn : nlL new (d :: t) = (if d = 10 then new else [d]) ++ nlL new t := by unfold nlL; rw [List.flatMap_cons]
    rw [hn, ← ih]
    cases h : partsOf 10 t with
    | nil => exact absurd h (partsOf_ne 10 t)
    | cons a r =>
      by_cases e : d = 10
      · have hc : partsOf 10 (d :: t) = [] :: a :: r := by rw [partsOf, if_pos e, h]
        rw [hc, if_pos e]; simp [joinP]
      · have hc : partsOf 10 (d :: t) = (d :: a) :: r := by rw [partsOf, if_neg e, h]
        rw [hc, if_neg e]; simp [joinP]
theorem join_loop (nl : ByteArray) (hn : nl.size ≤ 1000) (parts : List (List UInt8)) (hp : parts.length ≤ 100000) (hq : ∀ p ∈ parts, p.length ≤ 100000) (d : Nat) : ∀ (i : Nat) (acc : List UInt8), i + d = parts.length → acc.length ≤ 200000 * i + 200000 →
    Ev (fun k => spec_HtmlText.l0 k nl (parts.map ofL) (ofL acc) (i : Int)) (ofL (acc ++ (parts.drop i).flatMap fun p => nl.data.toList ++ p)) := by
  have hml : (parts.map ofL).length = parts.length := List.length_map ..
  induction d with
  | zero =>
    intro i acc hi ha
    rw [List.drop_eq_nil_of_le (by omega)]
    refine Ev.step (f := fun _ => some (ofL (acc ++ []))) (fun k => ?_) (Ev.now _)
    simp only [spec_HtmlText.l0]
    rw [if_neg (by omega), List.append_nil]
  | succ d ih =>
    intro i acc hi ha
    have hlt : i < parts.length := by omega
    obtain ⟨p, hpe⟩ : ∃ p, p = parts[i] := ⟨_, rfl⟩
    have hpl : p.length ≤ 100000 := by rw [hpe]; exact hq _ (List.getElem_mem hlt)
    have hrd : rdOf ByteArray.empty (parts.map ofL) (i : Int) = ofL p := by rw [rdOf_at _ _ _ (by omega), List.getElem_map, ← hpe]
    have hd : parts.drop i = p :: parts.drop (i + 1) := by rw [hpe]; exact List.drop_eq_getElem_cons hlt
    have hw : wrap64 ((i : Int) + 1) = ((i + 1 : Nat) : Int) := by rw [w64 _ (by omega) (by omega)]; rfl
    have hnl : nl = ofL nl.data.toList := (ofL_of nl).symm
    have hnz : nl.data.toList.length ≤ 1000 := by rw [size_l]; exact hn
    have h1 := ih (i + 1) (acc ++ nl.data.toList ++ p) (by omega) (by simp only [List.length_append]; omega)
    rw [hd, List.flatMap_cons, ← List.append_assoc, ← List.append_assoc]
    refine Ev.step (f := fun k => spec_HtmlText.l0 k nl (parts.map ofL) (ofL (acc ++ nl.data.toList ++ p)) ((i + 1 : Nat) : Int)) (fun k => ?_) h1
    have ea : ofL acc ++ nl = ofL (acc ++ nl.data.toList) := by conv => lhs; rw [hnl]
                                                                exact ofL_app _ _
    simp only [spec_HtmlText.l0]
    rw [if_pos (by omega), if_pos (by rw [ofL_size]; omega), if_pos (by omega), ea, hrd, if_pos (by rw [ofL_size, ofL_size, List.length_append]; omega), ofL_app, hw]
theorem text_j (s nl : ByteArray) (hs : s.size ≤ 20000) (hn : nl.size ≤ 1000) : Ev (fun k => spec_HtmlText.j0 k s nl) (ofL (nlL nl.data.toList s.data.toList)) := by
  have hl := parts_len s.data.toList
  rw [size_l] at hl
  have hq : ∀ p ∈ partsOf 10 s.data.toList, p.length ≤ 100000 := by
    have : ∀ l : List UInt8, ∀ p ∈ partsOf 10 l, p.length ≤ l.length := by
      intro l
      induction l with
      | nil => simp [partsOf]
      | cons d t ih =>
        intro p hp
        unfold partsOf at hp
        split at hp
        · rcases List.mem_cons.1 hp with rfl | hp
          · simp
          · have := ih p hp; rw [List.length_cons]; omega
        · split at hp
          · simp at hp; rw [hp]; simp
          · rename_i a r h
            rcases List.mem_cons.1 hp with rfl | hp
            · have := ih a (by rw [h]; exact List.mem_cons_self); rw [List.length_cons, List.length_cons]; omega
            · have := ih p (by rw [h]; exact List.mem_cons_of_mem _ hp); rw [List.length_cons]; omega
    intro p hp
    have := this _ p hp
    rw [size_l] at this
    omega
  refine Ev.step (f := fun k => (spec_Cut.f k s).bind fun t108 => (if 0 < (t108.length : Int) then (spec_HtmlText.l0 k nl t108 (rdOf ByteArray.empty t108 0) 1) else (none))) (fun k => by simp only [spec_HtmlText.j0]) (Ev.bind (cut_e s (by omega)) ?_)
  rw [← join_parts]
  obtain ⟨h, r, he⟩ : ∃ h r, partsOf 10 s.data.toList = h :: r := by
    cases e : partsOf 10 s.data.toList with
    | nil => exact absurd e (partsOf_ne 10 _)
    | cons a r => exact ⟨a, r, rfl⟩
  rw [he] at hl hq ⊢
  have hh := hq h List.mem_cons_self
  have hrd : rdOf ByteArray.empty ((h :: r).map ofL) 0 = ofL h := rdOf_at ByteArray.empty ((h :: r).map ofL) 0 (by simp)
  have h1 := join_loop nl hn (h :: r) (by omega) hq r.length 1 h (by rw [List.length_cons]; omega) (by omega)
  rw [List.drop_one, List.tail_cons] at h1
  have hpos : (0 : Int) < (((h :: r).map ofL).length : Int) := by rw [List.length_map, List.length_cons]; omega
  refine Ev.congr (fun k => ?_) h1
  rw [if_pos hpos, hrd]
  rfl
theorem text_e (s nl : ByteArray) (esc : Bool) (hs : s.size ≤ 1000) (hn : nl.size ≤ 100) : Ev (fun k => spec_HtmlText.f k s esc nl) (ofL (htm esc nl.data.toList s.data.toList)) := by
  cases esc with
  | false =>
    have h := text_j s nl (by omega) (by omega)
    refine Ev.congr (fun k => ?_) h
    simp only [spec_HtmlText.f]
    rw [if_neg (by simp)]
  | true =>
    have h5 : (ofL (escL s.data.toList)).size ≤ 5000 := by
      rw [ofL_size]
      have := escL_len s.data.toList
      rw [size_l] at this
      omega
    refine Ev.congr (f := fun k => (spec_Escaped.f k s).bind fun t => spec_HtmlText.j0 k t nl) (fun k => ?_) (Ev.bind (escaped_e s (by omega)) (text_j (ofL (escL s.data.toList)) nl (by omega) (by omega)))
    simp only [spec_HtmlText.f]
    rw [if_pos trivial]
theorem pure (a0 : ByteArray) (w0 : a0.size ≤ maxLen) (a1 : Bool) (a2 : ByteArray) (w2 : a2.size ≤ maxLen) : ∃ k, laws_FnHtmlCell.f k a0 a1 a2 = some true := by
  refine Ev.rounds (g := fun k => laws_FnHtmlCell.f k a0 a1 a2) ?_
  unfold laws_FnHtmlCell.f
  have ok1 : Ev (fun k => laws_FnHtmlCell.j1 k a0 a1 a2 true) true := Ev.step (f := fun _ => some true) (fun k => by simp only [laws_FnHtmlCell.j1]; rw [if_pos trivial]) (Ev.now true)
  have ok0 : Ev (fun k => laws_FnHtmlCell.j0 k a0 a1 a2 true) true := Ev.step (f := fun _ => some true) (fun k => by simp only [laws_FnHtmlCell.j0]; rw [if_pos trivial]) (Ev.now true)
  by_cases g1 : (a0.size : Int) > 2147483647
  · simp only [if_pos g1]; exact ok0
  · simp only [if_neg g1]
    by_cases g2 : (a2.size : Int) > 2147483647
    · rw [decide_eq_true g2]; exact ok0
    · rw [decide_eq_false g2]
      by_cases g3 : (a0.size : Int) > 1000
      · refine Ev.step (f := fun k => laws_FnHtmlCell.j1 k a0 a1 a2 true) (fun k => ?_) ok1
        simp only [laws_FnHtmlCell.j0]
        rw [if_neg (by simp), if_pos g3]
      · by_cases g4 : (a2.size : Int) > 100
        · refine Ev.step (f := fun k => laws_FnHtmlCell.j1 k a0 a1 a2 true) (fun k => ?_) ok1
          simp only [laws_FnHtmlCell.j0]
          rw [if_neg (by simp), if_neg g3, decide_eq_true g4]
        · have hs : a0.size ≤ 1000 := by omega
          have hn : a2.size ≤ 100 := by omega
          refine Ev.step (f := fun k => laws_FnHtmlCell.j1 k a0 a1 a2 false) (fun k => ?_) ?_
          · simp only [laws_FnHtmlCell.j0]
            rw [if_neg (by simp), if_neg g3, decide_eq_false g4]
          · refine Ev.step (fun k => by simp only [laws_FnHtmlCell.j1]; rw [if_neg (by simp), impl_HtmlCell.f, if_pos ⟨rfl, hs, hn⟩]) ?_
            simp only [Option.bind_some]
            refine Ev.bind (text_e a0 a2 a1 hs hn) ?_
            simpa using Ev.now true
end Go.Proofs.YtehlfbhlaoiioaaGreatDoorR.PureFnHtmlCell
