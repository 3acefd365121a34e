/-
  Proved: the plain law behind Rows.FnCamelDigitsSaid, over numbers and lists alone. Conditions: none beyond the statement's own.
-/
import Derived.DataShut
import Derived.Test.YtjioibigijflpaaDoorRead
import Derived.Test.YtjioibigijflpaaDoorGFnCamelDigitsx1
namespace Go.Proofs.YtjioibigijflpaaDoor.PureFnCamelDigits
set_option linter.unusedVariables false
open Go.RowKit Go.Proofs.YtjioibigijflpaaDoorW.PrintWords Go.Proofs.YtjioibigijflpaaDoor.Common Go.Proofs.YtjioibigijflpaaDoor.Read Go.Proofs.YtjioibigijflpaaDoor.GFnCamelDigits Go.Proofs.YtjioibigijflpaaDoor.GivenCam Go.Proofs.YtjioibigijflpaaDoor.CamP

theorem app_ofL (a b : List UInt8) : ofL a ++ ofL b = ofL (a ++ b) := by
  apply ByteArray.ext
  simp [ofL]
theorem ofL_size (l : List UInt8) : (ofL l).size = l.length := by rw [← size_l, ofL_data]
theorem same_loop (g : List ByteArray) (hg : g.length ≤ 100) : ∀ d i : Nat, i + d = g.length → Ev (fun k => spec_TwTexts.l0 k g g (i : Int)) true
  | 0, i, hi => by
    refine Ev.step (f := fun _ => some true) (fun k => ?_) (Ev.now _)
    simp only [spec_TwTexts.l0]
    rw [if_neg (by omega)]
  | d + 1, i, hi => by
    have ih := same_loop g hg d (i + 1) (by omega)
    refine Ev.step (fun k => ?_) ih
    simp only [spec_TwTexts.l0]
    rw [if_pos (by omega), if_pos (by omega), if_pos (by omega), if_pos trivial, w64 _ (by omega) (by omega)]
    rfl
theorem ext_digits (n : Nat) : (⟨#[49, 50, 51, 52, 53, 54, 55, 56]⟩ : ByteArray).extract 0 n = ofL (digits.take n) := by
  rw [extract_ofL]; rfl
theorem ext_letters (n : Nat) : (⟨#[97, 98, 99, 100, 101, 102, 103, 104]⟩ : ByteArray).extract 0 n = ofL (letters.take n) := by
  rw [extract_ofL]; rfl
theorem law_loop (l : List Int) (hl : l.length ≤ 40) (hw : ∀ x ∈ l, 0 ≤ x ∧ x ≤ 255) : ∀ d i : Nat, i + d = l.length → Ev (fun k => laws_FnCamelDigits.l0 k l (ofL (textTo l i)) ((partsTo l i).map ofL) (i : Int)) true
  | 0, i, hi => by
    obtain rfl : i = l.length := by omega
    have hlen := text_len l l.length
    have hok : okt (ofL (textTo l l.length)) = true := decide_eq_true ⟨by rw [ofL_data]; omega, fun c hc => text_ok l _ c (by rw [ofL_data] at hc; exact hc)⟩
    have hpl : ((partsTo l l.length).map ofL).length ≤ 100 := by rw [List.length_map, parts_len]; omega
    have hs := same_loop ((partsTo l l.length).map ofL) hpl ((partsTo l l.length).map ofL).length 0 (by omega)
    refine Ev.step (f := fun k => spec_TwTexts.l0 k ((partsTo l l.length).map ofL) ((partsTo l l.length).map ofL) ((0 : Nat) : Int)) (fun k => ?_) hs
    simp only [laws_FnCamelDigits.l0]
    rw [if_neg (by omega)]
    unfold impl_TwSplitCamelCase.f
    rw [if_pos hok, ofL_data, grp_text]
    show (spec_TwTexts.f k _ _).bind _ = _
    unfold spec_TwTexts.f
    rw [if_pos rfl]
    cases spec_TwTexts.l0 k ((partsTo l l.length).map ofL) ((partsTo l l.length).map ofL) 0 <;> rfl
  | d + 1, i, hi => by
    have hil : i < l.length := by omega
    have ih := law_loop l hl hw d (i + 1) (by omega)
    have hx := hw l[i] (List.getElem_mem hil)
    obtain ⟨x, hxe⟩ : ∃ x, x = l[i] := ⟨_, rfl⟩
    have hrd : rd l (i : Int) = x := by rw [rd_at l i hil, hxe]
    have hgd : l.getD i 0 = x := by rw [hxe]; simp [List.getD_eq_getElem?_getD, List.getElem?_eq_getElem hil]
    rw [← hxe] at hx
    have ht8 : Int.tmod x 8 = x % 8 := Int.tmod_eq_emod_of_nonneg hx.1
    have ht2 : Int.tmod (i : Int) 2 = (i : Int) % 2 := Int.tmod_eq_emod_of_nonneg (by omega)
    have hn : (1 + x % 8) % 256 = 1 + x % 8 := by omega
    have hlen := text_len l i
    refine Ev.step (fun k => ?_) ih
    simp only [laws_FnCamelDigits.l0]
    rw [if_pos (by omega), if_pos (by omega), hrd, ht8, hn, if_pos (by omega), if_pos (by omega), ht2]
    have hpp : ((partsTo l i).map ofL).length < 8796093022208 := by rw [List.length_map, parts_len]; omega
    by_cases c : i % 2 = 1
    · have e : CamP.part i (l.getD i 0) = digits.take (1 + x % 8).toNat := by unfold CamP.part; rw [if_pos c, hgd]
      have hsz : (ofL (textTo l i)).size + (ofL (digits.take (1 + x % 8).toNat)).size ≤ 9223372036854775807 := by rw [ofL_size, ofL_size, ← e]; have := part_len i (l.getD i 0); omega
      rw [if_pos (by omega), if_pos hpp, ext_digits, if_pos hsz, app_ofL, ← e, ← text_step, w64 _ (by omega) (by omega)]
      show _ = laws_FnCamelDigits.l0 k l _ ((partsTo l i ++ [CamP.part i (l.getD i 0)]).map ofL) _
      rw [List.map_append]
      rfl
    · have e : CamP.part i (l.getD i 0) = letters.take (1 + x % 8).toNat := by unfold CamP.part; rw [if_neg c, hgd]
      have hsz : (ofL (textTo l i)).size + (ofL (letters.take (1 + x % 8).toNat)).size ≤ 9223372036854775807 := by rw [ofL_size, ofL_size, ← e]; have := part_len i (l.getD i 0); omega
      rw [if_neg (by omega), if_pos hpp, ext_letters, if_pos hsz, app_ofL, ← e, ← text_step, w64 _ (by omega) (by omega)]
      show _ = laws_FnCamelDigits.l0 k l _ ((partsTo l i ++ [CamP.part i (l.getD i 0)]).map ofL) _
      rw [List.map_append]
      rfl
theorem jt (l : List Int) : Ev (fun k => laws_FnCamelDigits.j0 k l true) true :=
  Ev.step (f := fun _ => some true) (fun k => by simp only [laws_FnCamelDigits.j0]; rfl) (Ev.now _)
theorem pure (l0 : List Int) (hg0 : (Goods (fun n => (Lit.int .u8 n).wf = true)) l0) : ∃ k, laws_FnCamelDigits.f k l0 = some true := by
  by_cases h1 : (l0.length : Int) > 2147483647
  · exact ⟨0, by unfold laws_FnCamelDigits.f; rw [if_pos h1]⟩
  · by_cases h2 : (l0.length : Int) > 40
    · refine Ev.rounds (Ev.congr (fun k => ?_) (jt l0))
      show laws_FnCamelDigits.f k l0 = _
      unfold laws_FnCamelDigits.f
      rw [if_neg h1, if_pos h2]
    · by_cases h3 : (l0.length : Int) = 0
      · refine Ev.rounds (Ev.congr (fun k => ?_) (jt l0))
        show laws_FnCamelDigits.f k l0 = _
        unfold laws_FnCamelDigits.f
        rw [if_neg h1, if_neg h2, beq_iff_eq.2 h3]
      · have hw : ∀ x ∈ l0, 0 ≤ x ∧ x ≤ 255 := fun x hx => by
          exact (Lit.wf_int_iff .u8 x).1 (hg0 x hx)
        have h := law_loop l0 (by omega) hw l0.length 0 (by omega)
        refine Ev.rounds (Ev.congr (fun k => ?_) (Ev.step (g := fun k => laws_FnCamelDigits.j0 k l0 false) (fun k => ?_) h))
        · show laws_FnCamelDigits.f k l0 = _
          unfold laws_FnCamelDigits.f
          rw [if_neg h1, if_neg h2, beq_eq_false_iff_ne.2 h3]
        · simp only [laws_FnCamelDigits.j0]
          rw [if_neg (by decide)]
          rfl

end Go.Proofs.YtjioibigijflpaaDoor.PureFnCamelDigits
