/-
  Proved: the plain law behind Rows.FnTextCRLFSaid, over numbers and lists alone. Conditions: none beyond the statement's own.
-/
import Derived.Test.YtjoagjkmghmnnaaRead
import Derived.Test.YtjoagjkmghmnnaaGFnTextCRLFx1
import Derived.Test.YtjoagjkmghmnnaaCommon
namespace Go.Proofs.Ytjoagjkmghmnnaa.PureFnTextCRLF
set_option linter.unusedVariables false
open Go.RowKit Go.Proofs.YtjoagjkmghmnnaaW.PrintWords Go.Proofs.Ytjoagjkmghmnnaa.Read Go.Proofs.Ytjoagjkmghmnnaa.GFnTextCRLF Go.Proofs.Ytjoagjkmghmnnaa.GivenCrlf Go.Proofs.Ytjoagjkmghmnnaa.Common Go.Proofs.Ytjoagjkmghmnnaa.Crlf

theorem returns_loop (s : ByteArray) (hs : s.size ≤ 2147483647) (d : Nat) : ∀ i : Nat, i + d = s.size → ∃ b, Ev (fun k => laws_txReturns.l0 k s (i : Int)) b ∧ (b = true → s.size ≤ 1000 ∧ ∀ c ∈ s.data.toList.drop i, c.toNat < 128) := by
  induction d with
  | zero =>
    intro i hi
    refine ⟨decide ((s.size : Int) ≤ 1000), Ev.step (f := fun _ => some (decide ((s.size : Int) ≤ 1000))) (fun k => ?_) (Ev.now _), fun h => ⟨by have := of_decide_eq_true h; omega, ?_⟩⟩
    · simp only [laws_txReturns.l0]
      rw [if_neg (by omega)]
    · rw [List.drop_eq_nil_of_le (by rw [size_l]; omega)]; simp
  | succ d ih =>
    intro i hi
    have hlt : i < s.size := by omega
    have hlt' : i < s.data.toList.length := by rw [size_l]; exact hlt
    obtain ⟨b, hb, h⟩ := ih (i + 1) (by omega)
    obtain ⟨c, hc⟩ : ∃ c, c = s.data.toList[i] := ⟨_, rfl⟩
    have hbt : bt s (i : Int) = (c.toNat : Int) := by rw [bt_get s i hlt, hc]
    have hd : s.data.toList.drop i = c :: s.data.toList.drop (i + 1) := by rw [hc]; exact List.drop_eq_getElem_cons hlt'
    have hw : wrap64 ((i : Int) + 1) = ((i + 1 : Nat) : Int) := by rw [w64 _ (by omega) (by omega)]; rfl
    have more : c.toNat < 128 → b = true → s.size ≤ 1000 ∧ ∀ x ∈ s.data.toList.drop i, x.toNat < 128 := fun hcl hbt' => by
      refine ⟨(h hbt').1, fun x hx => ?_⟩
      rw [hd] at hx
      rcases List.mem_cons.1 hx with rfl | hx
      · exact hcl
      · exact (h hbt').2 x hx
    have step : ∀ (v : Bool), (∀ k, laws_txReturns.l0 (k + 1) s (i : Int) = laws_txReturns.l0 k s ((i + 1 : Nat) : Int)) → Ev (fun k => laws_txReturns.l0 k s (i : Int)) b := fun v e => Ev.step (f := fun k => laws_txReturns.l0 k s ((i + 1 : Nat) : Int)) e hb
    by_cases h32 : (c.toNat : Int) < 32
    · by_cases h10 : (c.toNat : Int) = 10
      · refine ⟨b, step b fun k => ?_, more (by omega)⟩
        simp only [laws_txReturns.l0]
        rw [if_pos (by omega), if_pos (by omega), hbt, if_pos h32, if_pos h10, hw]
      · by_cases h13 : (c.toNat : Int) = 13
        · refine ⟨b, step b fun k => ?_, more (by omega)⟩
          simp only [laws_txReturns.l0]
          rw [if_pos (by omega), if_pos (by omega), hbt, if_pos h32, if_neg h10, if_pos h13, hw]
        · refine ⟨false, Ev.step (f := fun _ => some false) (fun k => ?_) (Ev.now false), fun h => by cases h⟩
          simp only [laws_txReturns.l0]
          rw [if_pos (by omega), if_pos (by omega), hbt, if_pos h32, if_neg h10, if_neg h13]
    · by_cases h126 : (c.toNat : Int) > 126
      · refine ⟨false, Ev.step (f := fun _ => some false) (fun k => ?_) (Ev.now false), fun h => by cases h⟩
        simp only [laws_txReturns.l0]
        rw [if_pos (by omega), if_pos (by omega), hbt, if_neg h32, if_pos h126, if_neg (by omega), if_neg (by omega)]
      · refine ⟨b, step b fun k => ?_, more (by omega)⟩
        simp only [laws_txReturns.l0]
        rw [if_pos (by omega), if_pos (by omega), hbt, if_neg h32, if_neg h126, hw]
theorem pure (a0 : ByteArray) (w0 : a0.size ≤ maxLen) : ∃ k, laws_FnTextCRLF.f k a0 = some true := by
  refine Ev.rounds (g := fun k => laws_FnTextCRLF.f k a0) ?_
  unfold laws_FnTextCRLF.f
  by_cases hb : (a0.size : Int) > 2147483647
  · simp only [if_pos hb]; exact Ev.now true
  · simp only [if_neg hb]
    obtain ⟨b, hev, h⟩ := returns_loop a0 (by omega) a0.size 0 (by omega)
    refine Ev.bind (g := fun k => laws_txReturns.f k a0) (a := b) hev ?_
    cases b with
    | false => simpa using Ev.now true
    | true =>
      obtain ⟨h1, h2⟩ := h rfl
      have hok : okc a0 = true := (okc_iff a0).2 ⟨h1, by simpa using h2⟩
      simp only [if_true, impl_TextCRLF.f, spec_TxReturned.f, if_pos hok, Option.bind_some, byLines_ret]
      simpa using Ev.now true
end Go.Proofs.Ytjoagjkmghmnnaa.PureFnTextCRLF
