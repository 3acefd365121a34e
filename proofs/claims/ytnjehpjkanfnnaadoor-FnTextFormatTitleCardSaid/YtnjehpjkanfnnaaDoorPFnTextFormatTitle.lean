/-
  Proved: the plain law behind Rows.FnTextFormatTitleSaid, over numbers and lists alone. Conditions: none beyond the statement's own.
-/
import Derived.Test.YtnjehpjkanfnnaaDoorRead
import Derived.Test.YtnjehpjkanfnnaaDoorGFnTextFormatTitlex2
namespace Go.Proofs.YtnjehpjkanfnnaaDoor.PureFnTextFormatTitle
set_option linter.unusedVariables false
open Go.RowKit Go.Proofs.YtnjehpjkanfnnaaDoorW.PrintWords Go.Proofs.YtnjehpjkanfnnaaDoor.Read Go.Proofs.YtnjehpjkanfnnaaDoor.GFnTextFormatTitle Go.Proofs.YtnjehpjkanfnnaaDoor.GivenTt Go.Proofs.YtnjehpjkanfnnaaDoor.Common Go.Proofs.YtnjehpjkanfnnaaDoor.TtP

theorem tight_some (s : ByteArray) (h0 : ¬ s.toList = ([] : List UInt8)) (hs : s.size ≤ 200) : ∃ b, spec_TxTight.f s = some b := by
  have hp : 0 < s.size := by
    rcases Nat.eq_zero_or_pos s.size with h | h
    · exact absurd (by rw [tl]; exact List.eq_nil_of_length_eq_zero (by rw [size_l]; exact h)) h0
    · exact h
  unfold spec_TxTight.f
  rw [if_neg h0, if_pos (by omega)]
  split
  · exact ⟨_, rfl⟩
  · rw [w64 _ (by omega) (by omega), if_pos (by omega), if_pos (by omega)]
    exact ⟨_, rfl⟩
theorem bad (a : List ByteArray) (b : Int) (c : ByteArray) (d : Int) (e : ByteArray) (f : List ByteArray) (g h : Int) : Ev (fun k => laws_txSentence.j1 k a b c d e f g h true) (⟨#[]⟩, false) :=
  Ev.step (f := fun _ => some (⟨#[]⟩, false)) (fun k => by simp only [laws_txSentence.j1, if_true]) (Ev.now _)
theorem sent_loop (l : List ByteArray) (hl : l.length ≤ 2147483647) (d : Nat) : ∀ (i : Nat) (x : ByteArray), i + d = l.length → x.size ≤ 201 * i →
    ∃ r : ByteArray × Bool, Ev (fun k => laws_txSentence.l0 k l 200 x l (l.length : Int) (i : Int)) r ∧ (r.2 = true → r.1.size ≤ 20000) := by
  induction d with
  | zero =>
    intro i x hi hx
    by_cases h60 : (l.length : Int) > 0 ∧ (l.length : Int) ≤ 60
    · refine ⟨(x, decide ((200 : Int) ≤ 300)), Ev.step (f := fun _ => some (x, decide ((200 : Int) ≤ 300))) (fun k => ?_) (Ev.now _), fun _ => ?_⟩
      · simp only [laws_txSentence.l0]
        rw [if_neg (by omega), if_pos h60.1, if_pos h60.2]
      · show x.size ≤ 20000
        omega
    · refine ⟨(x, false), Ev.step (f := fun _ => some (x, false)) (fun k => ?_) (Ev.now _), fun h => by cases h⟩
      simp only [laws_txSentence.l0]
      rw [if_neg (by omega)]
      by_cases h0 : (l.length : Int) > 0
      · rw [if_pos h0, if_neg (fun h => h60 ⟨h0, h⟩)]
      · rw [if_neg h0]
  | succ d ih =>
    intro i x hi hx
    have hlt : i < l.length := by omega
    obtain ⟨v, hv⟩ : ∃ v, l[i] = v := ⟨_, rfl⟩
    have hrd : rdOf ByteArray.empty l (i : Int) = v := by rw [rdOf_at _ _ _ hlt, hv]
    by_cases h0 : v.toList = ([] : List UInt8)
    · refine ⟨_, Ev.step (fun k => ?_) (bad l 200 x (i : Int) v l (l.length : Int) (i : Int)), fun h => by cases h⟩
      simp only [laws_txSentence.l0]
      rw [if_pos (by omega), if_pos (by omega), if_pos (by omega), hrd, if_pos h0]
    · by_cases h2 : (v.size : Int) > 200
      · refine ⟨_, Ev.step (fun k => ?_) (bad l 200 x (i : Int) v l (l.length : Int) (i : Int)), fun h => by cases h⟩
        simp only [laws_txSentence.l0]
        rw [if_pos (by omega), if_pos (by omega), if_pos (by omega), hrd, if_neg h0, if_pos h2]
      · have h2' : v.size ≤ 200 := by omega
        by_cases h3 : LstN.simple v false = true
        · by_cases h4 : ((TtW.words v).length : Int) = 1
          · obtain ⟨b, hb⟩ := tight_some v h0 h2'
            cases b with
            | false =>
              refine ⟨_, Ev.step (fun k => ?_) (bad l 200 x (i : Int) v l (l.length : Int) (i : Int)), fun h => by cases h⟩
              simp only [laws_txSentence.l0]
              rw [if_pos (by omega), if_pos (by omega), if_pos (by omega), hrd, if_neg h0, if_neg h2]
              simp only [spec_TxSimple.f, Option.bind_some, h3, if_true, spec_TxWords.f]
              rw [if_pos (by omega)]
              simp only [Option.bind_some]
              rw [if_pos h4, hb]
              simp
            | true =>
              have hst : ∀ k, laws_txSentence.l0 (k + 1) l 200 x l (l.length : Int) (i : Int) = laws_txSentence.j1 k l 200 x (i : Int) v l (l.length : Int) (i : Int) (decide (((BkW.width v : Nat) : Int) > 200)) := by
                intro k
                simp only [laws_txSentence.l0]
                rw [if_pos (by omega), if_pos (by omega), if_pos (by omega), hrd, if_neg h0, if_neg h2]
                simp only [spec_TxSimple.f, Option.bind_some, h3, if_true, spec_TxWords.f]
                rw [if_pos (by omega)]
                simp only [Option.bind_some]
                rw [if_pos h4, hb]
                simp only [Option.bind_some, if_true, spec_TxWidth.f]
                rw [if_pos (by omega)]
                simp only [Option.bind_some]
              by_cases h5 : ((BkW.width v : Nat) : Int) > 200
              · rw [decide_eq_true h5] at hst
                exact ⟨_, Ev.step hst (bad l 200 x (i : Int) v l (l.length : Int) (i : Int)), fun h => by cases h⟩
              · rw [decide_eq_false h5] at hst
                by_cases h6 : (i : Int) > 0
                · obtain ⟨r, hr, hrs⟩ := ih (i + 1) ((x ++ (⟨#[32]⟩ : ByteArray)) ++ v) (by omega) (by rw [ByteArray.size_append, ByteArray.size_append]; show x.size + 1 + v.size ≤ _; omega)
                  refine ⟨r, Ev.step hst (Ev.step (fun k => ?_) hr), hrs⟩
                  simp only [laws_txSentence.j1]
                  have hz : (x ++ (⟨#[32]⟩ : ByteArray)).size = x.size + 1 := by rw [ByteArray.size_append]; rfl
                  rw [if_neg (by simp), if_pos h6, if_pos (by omega), if_pos (by rw [hz]; omega), w64 _ (by omega) (by omega)]
                  rfl
                · obtain ⟨r, hr, hrs⟩ := ih (i + 1) (x ++ v) (by omega) (by rw [ByteArray.size_append]; omega)
                  refine ⟨r, Ev.step hst (Ev.step (fun k => ?_) hr), hrs⟩
                  simp only [laws_txSentence.j1]
                  rw [if_neg (by simp), if_neg h6, if_pos (by omega), w64 _ (by omega) (by omega)]
                  rfl
          · refine ⟨_, Ev.step (fun k => ?_) (bad l 200 x (i : Int) v l (l.length : Int) (i : Int)), fun h => by cases h⟩
            simp only [laws_txSentence.l0]
            rw [if_pos (by omega), if_pos (by omega), if_pos (by omega), hrd, if_neg h0, if_neg h2]
            simp only [spec_TxSimple.f, Option.bind_some, h3, if_true, spec_TxWords.f]
            rw [if_pos (by omega)]
            simp only [Option.bind_some]
            rw [if_neg h4]
        · refine ⟨_, Ev.step (fun k => ?_) (bad l 200 x (i : Int) v l (l.length : Int) (i : Int)), fun h => by cases h⟩
          simp only [laws_txSentence.l0]
          rw [if_pos (by omega), if_pos (by omega), if_pos (by omega), hrd, if_neg h0, if_neg h2]
          simp only [spec_TxSimple.f, Option.bind_some]
          rw [if_neg h3]
theorem sent (l : List ByteArray) (hl : l.length ≤ 2147483647) : ∃ r : ByteArray × Bool, Ev (fun k => laws_txSentence.f k l 200) r ∧ (r.2 = true → r.1.size ≤ 20000) := by
  obtain ⟨r, hr, h⟩ := sent_loop l hl l.length 0 ⟨#[]⟩ (by omega) (by show 0 ≤ _; omega)
  exact ⟨r, Ev.congr (fun k => rfl) hr, h⟩
theorem w32 (b : UInt8) : wrap32 ((b.toNat : Nat) : Int) = ((b.toNat : Nat) : Int) := by
  have := b.toNat_lt
  unfold wrap32
  omega
theorem low_nat (b : UInt8) : ((lowB b).toNat : Int) = if 65 ≤ ((b.toNat : Nat) : Int) ∧ ((b.toNat : Nat) : Int) ≤ 90 then ((b.toNat : Nat) : Int) + 32 else ((b.toNat : Nat) : Int) := by
  unfold lowB
  have h1 : (65 ≤ ((b.toNat : Nat) : Int) ∧ ((b.toNat : Nat) : Int) ≤ 90) ↔ (65 ≤ b ∧ b ≤ 90) := by
    simp only [UInt8.le_iff_toNat_le]
    simp
    omega
  split
  · rename_i h
    have h2 := h1.2 h
    rw [if_pos h2, UInt8.toNat_add]
    simp
    omega
  · rename_i h
    rw [if_neg (fun e => h (h1.1 e))]
theorem up_nat (b : UInt8) : ((upB b).toNat : Int) = if 97 ≤ ((b.toNat : Nat) : Int) ∧ ((b.toNat : Nat) : Int) ≤ 122 then ((b.toNat : Nat) : Int) - 32 else ((b.toNat : Nat) : Int) := by
  rw [← TtT.upI_up]
  rfl
theorem tc1 (b : UInt8) : Ev (fun k => spec_TxCase.f k (wrap32 ((b.toNat : Nat) : Int)) 1) ((lowB b).toNat : Int) := by
  have hb := b.toNat_lt
  rw [w32, low_nat]
  refine Ev.step (f := fun _ => some _) (fun k => ?_) (Ev.now _)
  unfold spec_TxCase.f
  simp only [spec_TxCase.j0]
  rw [if_pos trivial]
  by_cases h1 : ((b.toNat : Nat) : Int) ≥ 65
  · rw [if_pos h1]
    by_cases h2 : ((b.toNat : Nat) : Int) ≤ 90
    · rw [if_pos (decide_eq_true h2), if_pos ⟨h1, h2⟩]
      congr 1
      unfold wrap32
      omega
    · rw [if_neg (by simpa using h2), if_neg (by omega), if_neg (fun e => h2 e.2)]
  · rw [if_neg h1, if_neg (by simp), if_neg (by omega), if_neg (fun e => h1 e.1)]
theorem tc3 (b : UInt8) : Ev (fun k => spec_TxCase.f k (wrap32 ((b.toNat : Nat) : Int)) 3) ((upB b).toNat : Int) := by
  have hb := b.toNat_lt
  rw [w32, up_nat]
  refine Ev.step (f := fun _ => some _) (fun k => ?_) (Ev.now _)
  unfold spec_TxCase.f
  simp only [spec_TxCase.j0]
  rw [if_neg (by omega), if_neg (by simp), if_pos trivial]
  by_cases h1 : ((b.toNat : Nat) : Int) ≥ 97
  · rw [if_pos h1]
    by_cases h2 : ((b.toNat : Nat) : Int) ≤ 122
    · rw [if_pos h2, if_pos ⟨h1, h2⟩]
      congr 1
      unfold wrap32
      omega
    · rw [if_neg h2, if_neg (fun e => h2 e.2)]
  · rw [if_neg h1, if_neg (fun e => h1 e.1)]
theorem bt_d (s : ByteArray) (i : Nat) (h : i < s.size) : bt s (i : Int) = ((s.data.toList.getD i 0).toNat : Int) := by
  rw [bt_get s i h]
  rw [List.getD_eq_getElem?_getD, List.getElem?_eq_getElem (by rw [size_l]; exact h)]
  rfl
theorem end_loop (s t : ByteArray) (ht : t.data.toList = titleL 32 s.data.toList) (hz : t.size = s.size) (hs : s.size ≤ 20000) (d : Nat) : ∀ i : Nat, i + d = s.size → Ev (fun k => laws_FnTextFormatTitle.l1 k s t (i : Int)) true := by
  induction d with
  | zero =>
    intro i hi
    refine Ev.step (f := fun _ => some true) (fun k => ?_) (Ev.now _)
    simp only [laws_FnTextFormatTitle.l1]
    rw [if_neg (by omega)]
  | succ d ih =>
    intro i hi
    have hr := ih (i + 1) (by omega)
    have hok := title_ok s.data.toList i (by rw [size_l]; omega)
    rw [← ht] at hok
    obtain ⟨hk1, hk2⟩ := hok
    have hbs := bt_d s i (by omega)
    have hbt := bt_d t i (by omega)
    obtain ⟨a, ha⟩ : ∃ a, s.data.toList.getD i 0 = a := ⟨_, rfl⟩
    obtain ⟨b, hb⟩ : ∃ b, t.data.toList.getD i 0 = b := ⟨_, rfl⟩
    rw [ha] at hbs hk1
    rw [hb] at hbt hk1 hk2
    have e1 := tc1 b
    have e2 := tc1 a
    have e3 := tc3 b
    have ew := w32 b
    rw [hk1] at e1
    have hU : (i = 0 ∨ s.data.toList.getD (i - 1) 0 = 32) → (∀ k, laws_FnTextFormatTitle.l1 (k + 1) s t (i : Int) = (spec_TxCase.f k (wrap32 ((b.toNat : Nat) : Int)) 1).bind fun t113 => ((spec_TxCase.f k (wrap32 ((a.toNat : Nat) : Int)) 1).bind fun t114 => (if t113 = t114 then ((spec_TxCase.f k (wrap32 ((b.toNat : Nat) : Int)) 3).bind fun t115 => if t115 = wrap32 ((b.toNat : Nat) : Int) then laws_FnTextFormatTitle.l1 k s t ((i + 1 : Nat) : Int) else some false) else some false))) → Ev (fun k => laws_FnTextFormatTitle.l1 k s t (i : Int)) true := by
      intro hc hst
      refine Ev.step hst (Ev.bind e1 (Ev.bind e2 ?_))
      rw [hk2 hc] at e3
      refine Ev.congr (fun k => if_pos rfl) (Ev.bind e3 ?_)
      exact Ev.congr (fun k => if_pos ew.symm) hr
    have hw1 : wrap64 ((i : Int) + 1) = ((i + 1 : Nat) : Int) := w64 _ (by omega) (by omega)
    by_cases h0 : i = 0
    · refine hU (Or.inl h0) (fun k => ?_)
      simp only [laws_FnTextFormatTitle.l1]
      rw [if_pos (by omega), if_pos (by omega), if_pos (by omega), hbs, hbt, hw1]
      simp only [if_pos (show (i : Int) = 0 by omega)]
    · have hbp := bt_d s (i - 1) (by omega)
      have hw2 : wrap64 ((i : Int) - 1) = ((i - 1 : Nat) : Int) := by rw [w64 _ (by omega) (by omega)]; omega
      obtain ⟨c, hc⟩ : ∃ c, s.data.toList.getD (i - 1) 0 = c := ⟨_, rfl⟩
      rw [hc] at hbp
      have h32 : ((c.toNat : Nat) : Int) = 32 ↔ c = 32 := by
        rw [← UInt8.toNat_inj]
        simp
        omega
      by_cases hb32 : c = 32
      · refine hU (Or.inr (by rw [hc]; exact hb32)) (fun k => ?_)
        simp only [laws_FnTextFormatTitle.l1]
        rw [if_pos (by omega), if_pos (by omega), if_pos (by omega), hbs, hbt, hw1, hw2, hbp]
        simp only [if_neg (show ¬ (i : Int) = 0 by omega), if_pos (show (0 : Int) ≤ ((i - 1 : Nat) : Int) by omega), if_pos (show ((i - 1 : Nat) : Int) < (s.size : Int) by omega), if_pos (h32.2 hb32)]
      · have hst : ∀ k, laws_FnTextFormatTitle.l1 (k + 1) s t (i : Int) = (spec_TxCase.f k (wrap32 ((b.toNat : Nat) : Int)) 1).bind fun t113 => ((spec_TxCase.f k (wrap32 ((a.toNat : Nat) : Int)) 1).bind fun t114 => (if t113 = t114 then laws_FnTextFormatTitle.l1 k s t ((i + 1 : Nat) : Int) else some false)) := fun k => by
          simp only [laws_FnTextFormatTitle.l1]
          rw [if_pos (by omega), if_pos (by omega), if_pos (by omega), hbs, hbt, hw1, hw2, hbp]
          simp only [if_neg (show ¬ (i : Int) = 0 by omega), if_pos (show (0 : Int) ≤ ((i - 1 : Nat) : Int) by omega), if_pos (show ((i - 1 : Nat) : Int) < (s.size : Int) by omega), if_neg (fun e => hb32 (h32.1 e))]
        exact Ev.step hst (Ev.bind e1 (Ev.bind e2 (Ev.congr (fun k => if_pos rfl) hr)))
theorem all_at (l : List UInt8) (i : Nat) (h : i < l.length) : (l.take (i + 1)).all letb = ((l.take i).all letb && letb (l.getD i 0)) := by
  rw [List.take_add_one, List.all_append, List.getElem?_eq_getElem h, List.getD_eq_getElem?_getD, List.getElem?_eq_getElem h]
  simp
theorem head_loop (s : ByteArray) (hs : s.size ≤ 20000) (d : Nat) : ∀ i : Nat, i + d = s.size → (s.data.toList.take i).all letb = true → Ev (fun k => laws_FnTextFormatTitle.l0 k s (i : Int)) true := by
  induction d with
  | zero =>
    intro i hi ha
    rw [List.take_of_length_le (by rw [size_l]; omega)] at ha
    have hz : (⟨(titleL 32 s.data.toList).toArray⟩ : ByteArray).size = s.size := by
      show (titleL 32 s.data.toList).toArray.size = _
      rw [List.size_toArray, titleL_len, size_l]
    refine Ev.step (f := fun k => laws_FnTextFormatTitle.l1 k s ⟨(titleL 32 s.data.toList).toArray⟩ 0) (fun k => ?_) (end_loop s _ rfl hz hs s.size 0 (by omega))
    simp only [laws_FnTextFormatTitle.l0]
    rw [if_neg (by omega)]
    unfold impl_TextFormat.f
    rw [if_pos ⟨rfl, by omega, ha⟩]
    simp only [Option.bind_some]
    rw [if_pos (by rw [hz])]
  | succ d ih =>
    intro i hi ha
    have hlt : i < s.data.toList.length := by rw [size_l]; omega
    have hbs := bt_d s i (by omega)
    have hall := all_at s.data.toList i hlt
    obtain ⟨a, hae⟩ : ∃ a, s.data.toList.getD i 0 = a := ⟨_, rfl⟩
    rw [hae] at hbs hall
    have hw1 : wrap64 ((i : Int) + 1) = ((i + 1 : Nat) : Int) := w64 _ (by omega) (by omega)
    have hi32 : letb a = true ↔ (((a.toNat : Nat) : Int) = 32 ∨ (97 ≤ ((a.toNat : Nat) : Int) ∧ ((a.toNat : Nat) : Int) ≤ 122) ∨ (65 ≤ ((a.toNat : Nat) : Int) ∧ ((a.toNat : Nat) : Int) ≤ 90)) := by
      rw [letb_iff]
      unfold let_
      simp only [UInt8.le_iff_toNat_le, ← UInt8.toNat_inj]
      simp
      omega
    by_cases hl : letb a = true
    · have hr := ih (i + 1) (by omega) (by rw [hall, ha, hl]; rfl)
      refine Ev.step (fun k => ?_) hr
      have hc := hi32.1 hl
      simp only [laws_FnTextFormatTitle.l0]
      rw [if_pos (by omega), if_pos (by omega), hbs, hw1]
      by_cases h1 : ((a.toNat : Nat) : Int) = 32
      · rw [if_pos h1]
      · rw [if_neg h1]
        by_cases h2 : ((a.toNat : Nat) : Int) < 97
        · rw [if_pos h2, if_neg (by omega), if_neg (by omega)]
        · rw [if_neg h2]
          rw [if_neg (by omega)]
    · have hc : ¬ _ := fun e => hl (hi32.2 e)
      refine Ev.step (f := fun _ => some true) (fun k => ?_) (Ev.now _)
      simp only [laws_FnTextFormatTitle.l0]
      rw [if_pos (by omega), if_pos (by omega), hbs, if_neg (by omega)]
      by_cases h2 : ((a.toNat : Nat) : Int) < 97
      · rw [if_pos h2]
        by_cases h3 : ((a.toNat : Nat) : Int) < 65
        · rw [if_pos h3]
        · rw [if_neg h3, if_pos (by omega)]
      · rw [if_neg h2, if_pos (by omega)]
        by_cases h3 : ((a.toNat : Nat) : Int) < 65
        · rw [if_pos h3]
        · rw [if_neg h3, if_pos (by omega)]
theorem pure (l0 : List ByteArray) (hg0 : (Goods (fun s => s.size ≤ maxLen)) l0) : ∃ k, laws_FnTextFormatTitle.f k l0 = some true := by
  obtain ⟨b, hb, hs⟩ := fits4 laws_zzFits4.l0 (fun k x8 x9 x10 => by simp only [laws_zzFits4.l0]) laws_zzFits4.f (fun k l => by simp only [laws_zzFits4.f]) l0
  refine Ev.rounds (g := fun k => laws_FnTextFormatTitle.f k l0) ?_
  unfold laws_FnTextFormatTitle.f
  refine Ev.bind hb ?_
  cases b with
  | false => exact Ev.congr (fun k => if_neg (by simp)) (Ev.now true)
  | true =>
    obtain ⟨hl, hz⟩ := hs rfl
    refine Ev.congr (fun k => if_pos rfl) ?_
    obtain ⟨r, hr, hrs⟩ := sent l0 hl
    refine Ev.bind hr ?_
    by_cases h2 : r.2 = true
    · refine Ev.congr (fun k => if_pos h2) ?_
      have := head_loop r.1 (hrs h2) r.1.size 0 (by omega) (by simp)
      exact this
    · exact Ev.congr (fun k => if_neg h2) (Ev.now true)
end Go.Proofs.YtnjehpjkanfnnaaDoor.PureFnTextFormatTitle
