/-
  Proved: the plain law behind Rows.FnTextVAlignLongSaid, over numbers and lists alone. Conditions: none beyond the statement's own.
-/
import Derived.Test.YtjoagjkmghmnnaaRead
import Derived.Test.YtjoagjkmghmnnaaGFnTextVAlignLongx
import Derived.Test.YtjoagjkmghmnnaaCommon
namespace Go.Proofs.Ytjoagjkmghmnnaa.PureFnTextVAlignLong
set_option linter.unusedVariables false
open Go.RowKit Go.Proofs.YtjoagjkmghmnnaaW.PrintWords Go.Proofs.Ytjoagjkmghmnnaa.Read Go.Proofs.Ytjoagjkmghmnnaa.GFnTextVAlignLong Go.Proofs.Ytjoagjkmghmnnaa.Given Go.Proofs.Ytjoagjkmghmnnaa.Common

theorem same_loop (l : List ByteArray) (hl : l.length ≤ 300) (d : Nat) : ∀ i : Nat, i + d = l.length → Ev (fun k => spec_TxSameTexts.l0 k l l (l.length : Int) (i : Int)) true := by
  induction d with
  | zero =>
    intro i hi
    refine Ev.step (f := fun _ => some true) (fun k => ?_) (Ev.now true)
    simp only [spec_TxSameTexts.l0]
    rw [if_neg (by omega)]
  | succ d ih =>
    intro i hi
    refine Ev.step (f := fun k => spec_TxSameTexts.l0 k l l (l.length : Int) ((i + 1 : Nat) : Int)) (fun k => ?_) (ih (i + 1) (by omega))
    simp only [spec_TxSameTexts.l0]
    rw [if_pos (by omega), if_pos (by omega), if_pos (by omega), if_pos (by omega), if_pos trivial, w64 _ (by omega) (by omega)]
    rfl
theorem same (l : List ByteArray) (hl : l.length ≤ 300) : Ev (fun k => spec_TxSameTexts.f k l l) true := by
  refine Ev.congr (f := fun k => spec_TxSameTexts.l0 k l l (l.length : Int) ((0 : Nat) : Int)) (fun k => ?_) (same_loop l hl l.length 0 (by omega))
  unfold spec_TxSameTexts.f
  rw [if_pos rfl]
  rfl
theorem rep_nl (m : Nat) : Lib.repeatL [10] m = List.replicate m 10 := by
  induction m with
  | zero => rfl
  | succ m ih => rw [Lib.repeatL, ih]; rfl
theorem rep_some (m : Nat) (h : m ≤ 300) : strings_Repeat.f (⟨#[10]⟩ : ByteArray) (m : Int) = some (ofL (List.replicate m 10)) := by
  unfold strings_Repeat.f
  have hs : (⟨#[10]⟩ : ByteArray).size = 1 := rfl
  rw [if_pos ⟨by omega, by omega, by rw [hs]; omega⟩]
  simp only [Int.toNat_natCast]
  rw [rep_nl]
  rfl
theorem split_nl (n : Nat) : ∀ m, m ≤ n → splitL [10] n (List.replicate m 10) = List.replicate (m + 1) [] := by
  induction n with
  | zero =>
    intro m hm
    obtain rfl : m = 0 := by omega
    rfl
  | succ n ih =>
    intro m hm
    cases m with
    | zero => rfl
    | succ m =>
      have hf : findSub [10] (List.replicate (m + 1) 10) = some 0 := by
        rw [List.replicate_succ]
        unfold findSub
        rw [if_pos (by simp [List.isPrefixOf])]
      rw [splitL, hf]
      simp only [List.take_zero, Nat.zero_add, List.length_singleton]
      rw [List.replicate_succ, List.drop_succ_cons, List.drop_zero, ih m (by omega)]
      rfl
theorem index_ev' (s sub : ByteArray) (hs : s.size ≤ 4611686018427387904) (hb : sub.size ≤ 2305843009213693952) : Ev (fun k => text_zzIndex.f k s sub) (idxOf sub.data.toList s.data.toList) :=
  index_ev text_zzIndex.l0 (fun k x0 x1 x5 => by simp only [text_zzIndex.l0]) s sub hs hb
theorem split_ev (m : Nat) (h : m ≤ 300) : Ev (fun k => text_zzSplit.f k (ofL (List.replicate m 10)) (⟨#[10]⟩ : ByteArray)) (List.replicate (m + 1) (ofL [])) := by
  have hsz : (ofL (List.replicate m 10)).size = m := by rw [← size_l, ofL_data]; simp
  have h1 := split_loop text_zzIndex.f text_zzSplit.l1 index_ev' (fun k x0 x1 x5 => by simp only [text_zzSplit.l1]) (⟨#[10]⟩ : ByteArray) (by decide) (by decide) m (ofL (List.replicate m 10)) [] (by omega) (by omega) (by rw [hsz]; simp; omega)
  rw [ofL_data, show (⟨#[10]⟩ : ByteArray).data.toList = [10] from rfl, split_nl m m (Nat.le_refl _), List.nil_append, List.map_replicate] at h1
  refine Ev.congr (fun k => ?_) h1
  unfold text_zzSplit.f
  rw [if_neg (by decide)]
theorem set_loop (l : List ByteArray) (hl : l.length ≤ 300) (d : Nat) : ∀ i : Nat, i + d = l.length → Ev (fun k => text_VAlign_Apply.l0 k 0 (l.take i ++ List.replicate d (ofL [])) l (l.length : Int) (i : Int)) l := by
  induction d with
  | zero =>
    intro i hi
    refine Ev.step (f := fun _ => some l) (fun k => ?_) (Ev.now l)
    simp only [text_VAlign_Apply.l0]
    rw [if_neg (by omega), List.take_of_length_le (by omega)]
    simp
  | succ d ih =>
    intro i hi
    have hlt : i < l.length := by omega
    refine Ev.step (f := fun k => text_VAlign_Apply.l0 k 0 (l.take (i + 1) ++ List.replicate d (ofL [])) l (l.length : Int) ((i + 1 : Nat) : Int)) (fun k => ?_) (ih (i + 1) (by omega))
    simp only [text_VAlign_Apply.l0]
    have hw : wrap64 ((i : Int) + 0) = (i : Int) := by rw [w64 _ (by omega) (by omega)]; omega
    rw [hw, if_pos (by omega), if_pos (by omega), if_pos (by omega), if_pos (by omega), if_pos (by simp; omega), w64 _ (by omega) (by omega), Int.toNat_natCast, rdOf_at _ _ _ hlt]
    have e : (l.take i ++ List.replicate (d + 1) (ofL [])).set i l[i] = l.take (i + 1) ++ List.replicate d (ofL []) := by
      have hli : (l.take i).length = i := by rw [List.length_take]; omega
      rw [List.set_append_right _ _ (by omega), hli, Nat.sub_self, List.replicate_succ, List.set_cons_zero, List.take_succ_eq_append_getElem hlt, List.append_assoc]
      rfl
    rw [e]
    rfl
theorem apply_ev (a : Int) (l : List ByteArray) (n : Int) (h0 : 0 ≤ n) (h1 : n < l.length) (hl : l.length ≤ 300) : Ev (fun k => text_VAlign_Apply.f k a l n) l := by
  have hj1 : Ev (fun k => text_VAlign_Apply.j1 k l (l.length : Int) 0) l := by
    have hs := split_ev (l.length - 1) (by omega)
    have hset := set_loop l hl l.length 0 (by omega)
    rw [show l.length - 1 + 1 = l.length by omega] at hs
    refine Ev.step (fun k => by simp only [text_VAlign_Apply.j1]; rfl) ?_
    have hw : wrap64 ((l.length : Int) - 1) = ((l.length - 1 : Nat) : Int) := by rw [w64 _ (by omega) (by omega)]; omega
    rw [hw, rep_some _ (by omega)]
    simp only [Option.bind_some]
    refine Ev.bind hs ?_
    simpa using hset
  have hj0 : Ev (fun k => text_VAlign_Apply.j0 k a l (l.length : Int)) l := by
    refine Ev.step (fun k => by simp only [text_VAlign_Apply.j0]; rfl) ?_
    have e0 : wrap64 ((l.length : Int) - (l.length : Int)) = 0 := by rw [w64 _ (by omega) (by omega)]; omega
    simp only [e0, if_neg (show ¬ (l.length : Int) < 1 by omega)]
    have e1 : wrap64 (Int.tdiv 0 2) = 0 := w64 0 (by omega) (by omega)
    rw [e1]
    by_cases c1 : a = 2
    · simp only [if_pos c1]; exact hj1
    · by_cases c2 : a = 3
      · simp only [if_neg c1, if_pos c2]; exact hj1
      · simp only [if_neg c1, if_neg c2]; exact hj1
  refine Ev.congr (fun k => ?_) hj0
  unfold text_VAlign_Apply.f
  rw [if_neg (by omega), if_pos (by omega)]
theorem impl_ev (a : Int) (l : List ByteArray) (n : Int) (h0 : 0 ≤ n) (h1 : n < l.length) (hl : l.length ≤ 300) : Ev (fun k => impl_TextVAlign.f k a l n) l := by
  unfold impl_TextVAlign.f
  simp only [Option.bind_some, List.nil_append, List.length_nil]
  simp only [if_pos (show 0 + l.length < 8796093022208 by omega)]
  exact Ev.bind (apply_ev a l n h0 h1 hl) (Ev.now l)
theorem pure (a0 : Int) (w0 : (Lit.int .u8 a0).wf = true) (l1 : List ByteArray) (hg1 : (Goods (fun s => s.size ≤ maxLen)) l1) (a2 : Int) (w2 : (Lit.int .i64 a2).wf = true) : ∃ k, laws_FnTextVAlignLong.f k a0 l1 a2 = some true := by
  refine Ev.rounds (g := fun k => laws_FnTextVAlignLong.f k a0 l1 a2) ?_
  unfold laws_FnTextVAlignLong.f
  obtain ⟨b, hb, hs⟩ := fits4 laws_zzFits4.l0 (fun k x8 x9 x10 => by simp only [laws_zzFits4.l0]) laws_zzFits4.f (fun k l => by simp only [laws_zzFits4.f]) l1
  refine Ev.bind hb ?_
  cases b with
  | false => simpa using Ev.now true
  | true =>
    simp only [if_true]
    have ht : Ev (fun k => laws_FnTextVAlignLong.j0 k a0 l1 a2 true) true := Ev.step (f := fun _ => some true) (fun k => by simp only [laws_FnTextVAlignLong.j0, if_true]) (Ev.now true)
    by_cases h0 : (l1.length : Int) > 300
    · simp only [if_pos h0]; exact ht
    · simp only [if_neg h0]
      by_cases h1 : a2 < 0
      · simp only [if_pos h1]; exact ht
      · simp only [if_neg h1]
        by_cases h2 : a2 ≥ (l1.length : Int)
        · rw [decide_eq_true h2]; exact ht
        · rw [decide_eq_false h2]
          refine Ev.step (fun k => by simp only [laws_FnTextVAlignLong.j0]; rfl) ?_
          simp only [Bool.false_eq_true, if_false]
          exact Ev.bind (impl_ev _ l1 a2 (by omega) (by omega) (by omega)) (Ev.bind (same l1 (by omega)) (Ev.now true))
end Go.Proofs.Ytjoagjkmghmnnaa.PureFnTextVAlignLong
