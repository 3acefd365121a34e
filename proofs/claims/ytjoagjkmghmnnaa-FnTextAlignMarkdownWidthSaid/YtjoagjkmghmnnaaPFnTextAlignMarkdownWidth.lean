/-
  Proved: the plain law behind Rows.FnTextAlignMarkdownWidthSaid, over numbers and lists alone. Conditions: none beyond the statement's own.
-/
import Derived.Test.YtjoagjkmghmnnaaRead
import Derived.Test.YtjoagjkmghmnnaaGFnTextAlignMarkdownWidthx
namespace Go.Proofs.Ytjoagjkmghmnnaa.PureFnTextAlignMarkdownWidth
set_option linter.unusedVariables false
open Go.RowKit Go.Proofs.YtjoagjkmghmnnaaW.PrintWords Go.Proofs.Ytjoagjkmghmnnaa.Read Go.Proofs.Ytjoagjkmghmnnaa.GFnTextAlignMarkdownWidth Go.Proofs.Ytjoagjkmghmnnaa.Given

theorem rep_some (n : Int) (h0 : 0 ≤ n) (h1 : n ≤ 2000) : ∃ r, strings_Repeat.f (⟨#[45]⟩ : ByteArray) n = some r ∧ (r.size : Int) = n := by
  have hs : (⟨#[45]⟩ : ByteArray).size = 1 := rfl
  refine ⟨_, by unfold strings_Repeat.f; rw [if_pos ⟨h0, by omega, by rw [hs]; omega⟩], ?_⟩
  simp only [ByteArray.size, List.size_toArray, Lib.repeatL_length]
  simp
  omega
theorem j1_some (k : Nat) (a n : Int) (h0 : 0 ≤ n) (h1 : n ≤ 2000) : ∃ r, text_Align_MarkdownProperty.j1 (k + 1) a n = some r ∧ (r.size : Int) = n + 2 := by
  obtain ⟨d, hd, hn⟩ := rep_some n h0 h1
  have s58 : (⟨#[58]⟩ : ByteArray).size = 1 := rfl
  have s32 : (⟨#[32]⟩ : ByteArray).size = 1 := rfl
  have g1 : 1 + d.size ≤ 9223372036854775807 := by omega
  have g2 : ((⟨#[58]⟩ : ByteArray) ++ d).size + 1 ≤ 9223372036854775807 := by rw [ByteArray.size_append, s58]; omega
  have g3 : ((⟨#[32]⟩ : ByteArray) ++ d).size + 1 ≤ 9223372036854775807 := by rw [ByteArray.size_append, s32]; omega
  simp only [text_Align_MarkdownProperty.j1, hd, Option.bind_some]
  simp only [if_pos g1, if_pos g2, if_pos g3]
  have hz : ∀ x y : ByteArray, x.size = 1 → y.size = 1 → (((x ++ d) ++ y).size : Int) = n + 2 := by
    intro x y hx hy
    rw [ByteArray.size_append, ByteArray.size_append, hx, hy]
    omega
  by_cases e1 : a = 1
  · rw [if_pos e1]; exact ⟨_, rfl, hz ⟨#[58]⟩ ⟨#[32]⟩ rfl rfl⟩
  · rw [if_neg e1]
    by_cases e2 : a = 2
    · rw [if_pos e2]; exact ⟨_, rfl, hz ⟨#[58]⟩ ⟨#[58]⟩ rfl rfl⟩
    · rw [if_neg e2]
      by_cases e3 : a = 4
      · rw [if_pos e3]; exact ⟨_, rfl, hz ⟨#[32]⟩ ⟨#[58]⟩ rfl rfl⟩
      · rw [if_neg e3]; exact ⟨_, rfl, hz ⟨#[32]⟩ ⟨#[32]⟩ rfl rfl⟩
theorem pure (a0 : Int) (w0 : (Lit.int .u8 a0).wf = true) (a1 : Int) (w1 : (Lit.int .i64 a1).wf = true) : ∃ k, laws_FnTextAlignMarkdownWidth.f k a0 a1 = some true := by
  refine ⟨2, ?_⟩
  unfold laws_FnTextAlignMarkdownWidth.f
  by_cases h0 : a1 < 0
  · rw [if_pos h0]
  · rw [if_neg h0]
    by_cases h1 : a1 > 2000
    · rw [if_pos h1]
    · rw [if_neg h1]
      obtain ⟨r, hr, hn⟩ := j1_some 0 (wrap64 (Int.tmod a0 6)) (mx a1 3) (by unfold mx; split <;> omega) (by unfold mx; split <;> omega)
      have hf : impl_TextAlignMarkdown.f 2 (wrap64 (Int.tmod a0 6)) [a1] = some r := by
        unfold impl_TextAlignMarkdown.f text_Align_MarkdownProperty.f
        rw [if_pos (by simp), if_pos (by simp)]
        have hrd : rd [a1] 0 = a1 := rfl
        simp only [text_Align_MarkdownProperty.j0, hrd]
        rw [if_pos (show 0 < (([a1] : List Int).length : Int) by simp)]
        by_cases h3 : a1 > 3
        · have e : mx a1 3 = a1 := by unfold mx; rw [if_neg (by omega)]
          rw [e] at hr
          rw [if_pos (decide_eq_true h3), hr]
          rfl
        · have e : mx a1 3 = 3 := by unfold mx; split <;> omega
          rw [e] at hr
          rw [if_neg (by simpa using h3), hr]
          rfl
      rw [hf, Option.bind_some]
      have hw : wrap64 (mx a1 3 + 2) = mx a1 3 + 2 := by unfold wrap64 mx; split <;> omega
      rw [hw, ← hn]
      simp
end Go.Proofs.Ytjoagjkmghmnnaa.PureFnTextAlignMarkdownWidth
