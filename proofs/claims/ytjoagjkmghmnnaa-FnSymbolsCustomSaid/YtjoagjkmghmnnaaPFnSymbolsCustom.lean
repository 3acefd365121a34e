/-
  Proved: the plain law behind Rows.FnSymbolsCustomSaid, over numbers and lists alone. Conditions: none beyond the statement's own.
-/
import Derived.Test.YtjoagjkmghmnnaaRead
import Derived.Test.YtjoagjkmghmnnaaGFnSymbolsCustomx
import Derived.Test.YtjoagjkmghmnnaaCommon
namespace Go.Proofs.Ytjoagjkmghmnnaa.PureFnSymbolsCustom
set_option linter.unusedVariables false
open Go.RowKit Go.Proofs.YtjoagjkmghmnnaaW.PrintWords Go.Proofs.Ytjoagjkmghmnnaa.Read Go.Proofs.Ytjoagjkmghmnnaa.GFnSymbolsCustom Go.Proofs.Ytjoagjkmghmnnaa.GivenSym Go.Proofs.Ytjoagjkmghmnnaa.Common

theorem symFold_snoc (n : Int) (t : ByteArray) : ∀ (a : List Int) (b p : List ByteArray), a.length = b.length → symFold (a ++ [n]) (b ++ [t]) p = (symFold a b p).set n.toNat t
  | [], [], p, _ => rfl
  | x :: a, y :: b, p, h => by
    rw [List.cons_append, List.cons_append, symFold, symFold]
    exact symFold_snoc n t a b _ (by simpa using h)
theorem symFold_length : ∀ (a : List Int) (b p : List ByteArray), (symFold a b p).length = p.length
  | [], _, p => rfl
  | x :: a, [], p => rfl
  | x :: a, y :: b, p => by rw [symFold, symFold_length a b]; simp
theorem symFold_take : ∀ (a : List Int) (b p : List ByteArray), symFold a b p = symFold a (b.take a.length) p
  | [], _, p => rfl
  | x :: a, [], p => rfl
  | x :: a, y :: b, p => by
    rw [List.length_cons, List.take_succ_cons, symFold, symFold, symFold_take a b]

theorem same_loop (l : List ByteArray) (hl : l.length ≤ 300) (d : Nat) : ∀ i : Nat, i + d = l.length → Ev (fun k => spec_TwTexts.l0 k l l (i : Int)) true := by
  induction d with
  | zero =>
    intro i hi
    refine Ev.step (f := fun _ => some true) (fun k => ?_) (Ev.now true)
    simp only [spec_TwTexts.l0]
    rw [if_neg (by omega)]
  | succ d ih =>
    intro i hi
    refine Ev.step (f := fun k => spec_TwTexts.l0 k l l ((i + 1 : Nat) : Int)) (fun k => ?_) (ih (i + 1) (by omega))
    simp only [spec_TwTexts.l0]
    rw [if_pos (by omega), if_pos (by omega), if_pos (by omega), if_pos trivial, w64 _ (by omega) (by omega)]
    rfl
theorem same (l : List ByteArray) (hl : l.length ≤ 300) : Ev (fun k => spec_TwTexts.f k l l) true := by
  refine Ev.congr (f := fun k => spec_TwTexts.l0 k l l ((0 : Nat) : Int)) (fun k => ?_) (same_loop l hl l.length 0 (by omega))
  unfold spec_TwTexts.f
  rw [if_pos rfl]
  rfl

def at14 (l : List Int) : List Int := l.map (· % 14)
theorem main_loop (a0 : ByteArray) (l1 : List Int) (l2 : List ByteArray) (h1 : l1.length ≤ 60) (h2 : l1.length = l2.length) (hg : ∀ n ∈ l1, 0 ≤ n ∧ n ≤ 255) (d : Nat) : ∀ i : Nat, i + d = l1.length →
    Ev (fun k => laws_FnSymbolsCustom.l0 k a0 l1 l2 (symFold (at14 (l1.take i)) (l2.take i) sym0) (at14 (l1.take i)) (i : Int)) true := by
  induction d with
  | zero =>
    intro i hi
    obtain rfl : i = l1.length := by omega
    refine Ev.step (fun k => by simp only [laws_FnSymbolsCustom.l0]; rfl) ?_
    simp only [if_neg (show ¬ ((l1.length : Nat) : Int) < (l1.length : Int) by omega)]
    rw [List.take_of_length_le (Nat.le_refl _), List.take_of_length_le (show l2.length ≤ l1.length by omega)]
    have hf : impl_TwSymbolsCustom.f a0 (at14 l1) l2 = some (a0, symFold (at14 l1) l2 sym0) := by
      unfold impl_TwSymbolsCustom.f
      rw [if_pos ⟨fun n hn => (by obtain ⟨m, _, rfl⟩ := List.mem_map.1 hn; exact ⟨by omega, by omega⟩), by simp [at14]; omega⟩]
    rw [hf]
    simp only [Option.bind_some, if_true]
    have hlen : (symFold (at14 l1) l2 sym0).length ≤ 300 := by rw [symFold_length]; decide
    exact Ev.bind (same _ hlen) (Ev.now true)
  | succ d ih =>
    intro i hi
    have hlt : i < l1.length := by omega
    have hlt2 : i < l2.length := by omega
    have hr := hg _ (List.getElem_mem hlt)
    have hli : (at14 (l1.take i)).length = i := by simp [at14]; omega
    refine Ev.step (f := fun k => laws_FnSymbolsCustom.l0 k a0 l1 l2 (symFold (at14 (l1.take (i + 1))) (l2.take (i + 1)) sym0) (at14 (l1.take (i + 1))) ((i + 1 : Nat) : Int)) (fun k => ?_) (ih (i + 1) (by omega))
    simp only [laws_FnSymbolsCustom.l0]
    have hm : Int.tmod (wrap64 (rd l1 (i : Int))) 14 = l1[i] % 14 := by
      rw [rd_at _ _ hlt, w64 _ (by omega) (by omega), Int.tmod_eq_emod_of_nonneg (by omega)]
    rw [if_pos (by omega), if_pos (by omega), if_pos (by omega), hm]
    simp only [Option.bind_some]
    have hrd : rd (at14 (l1.take i) ++ [l1[i] % 14]) (i : Int) = l1[i] % 14 := by
      rw [rd_at _ _ (by simp [hli])]
      rw [List.getElem_append_right (by omega)]
      simp [hli]
    have ha : at14 (l1.take (i + 1)) = at14 (l1.take i) ++ [l1[i] % 14] := by
      rw [List.take_succ_eq_append_getElem hlt]
      unfold at14
      rw [List.map_append]
      rfl
    rw [hrd, if_pos (by simp [hli]; omega), if_pos (by omega), if_pos (by omega), if_pos (by rw [symFold_length]; simp only [sym0, List.length_cons, List.length_nil]; omega), w64 _ (by omega) (by omega), rdOf_at _ _ _ hlt2, ha, List.take_succ_eq_append_getElem hlt2,
      symFold_snoc _ _ _ _ _ (by rw [hli, List.length_take]; omega)]
    rfl
theorem pure (a0 : ByteArray) (w0 : a0.size ≤ maxLen) (l1 : List Int) (hg1 : (Goods (fun n => (Lit.int .u8 n).wf = true)) l1) (l2 : List ByteArray) (hg2 : (Goods (fun s => s.size ≤ maxLen)) l2) : ∃ k, laws_FnSymbolsCustom.f k a0 l1 l2 = some true := by
  refine Ev.rounds (g := fun k => laws_FnSymbolsCustom.f k a0 l1 l2) ?_
  have ht : Ev (fun k => laws_FnSymbolsCustom.j0 k a0 l1 l2 true) true := Ev.step (f := fun _ => some true) (fun k => by simp only [laws_FnSymbolsCustom.j0, if_true]) (Ev.now true)
  have ht1 : Ev (fun k => laws_FnSymbolsCustom.j1 k a0 l1 l2 true) true := Ev.step (f := fun _ => some true) (fun k => by simp only [laws_FnSymbolsCustom.j1, if_true]) (Ev.now true)
  unfold laws_FnSymbolsCustom.f
  by_cases c0 : (a0.size : Int) > 2147483647
  · simp only [if_pos c0]; exact ht
  · simp only [if_neg c0]
    by_cases c1 : (l1.length : Int) > 2147483647
    · simp only [if_pos c1]; exact ht
    · simp only [if_neg c1]
      obtain ⟨b, hb, hs⟩ := fits4 laws_zzFits4.l0 (fun k x8 x9 x10 => by simp only [laws_zzFits4.l0]) laws_zzFits4.f (fun k l => by simp only [laws_zzFits4.f]) l2
      refine Ev.bind hb ?_
      cases b with
      | false => exact ht
      | true =>
        refine Ev.step (fun k => by simp only [laws_FnSymbolsCustom.j0]; rfl) ?_
        simp only [Bool.not_true, Bool.false_eq_true, if_false]
        by_cases c2 : (l1.length : Int) = (l2.length : Int)
        · simp only [if_pos c2]
          by_cases c3 : (l1.length : Int) > 60
          · rw [decide_eq_true c3]; exact ht1
          · rw [decide_eq_false c3]
            refine Ev.step (fun k => by simp only [laws_FnSymbolsCustom.j1]; rfl) ?_
            simp only [Bool.false_eq_true, if_false, Option.bind_some, List.length_replicate]
            have hm := main_loop a0 l1 l2 (by omega) (by omega) (fun n hn => by
              have h := hg1 n hn
              simpa [Lit.wf, IntKind.min, IntKind.max, IntKind.signed, IntKind.bits] using h) l1.length 0 (by omega)
            refine Ev.congr (fun k => ?_) hm
            rw [if_pos (by decide), if_pos (by decide), if_pos (by decide), if_pos (by decide)]
            rfl
        · simp only [if_neg c2]; exact ht1
end Go.Proofs.Ytjoagjkmghmnnaa.PureFnSymbolsCustom
