/-
  Proved: a title's bytes: each letter behind a blank, and the first, in upper case; what the law FnTextFormatTitle asks of them. Conditions: letters of ASCII and blanks alone.
-/
import Derived.Test.YtnjehpjkanfnnaaDoorCommon
namespace Go.Proofs.YtnjehpjkanfnnaaDoor.TtP
set_option linter.unusedVariables false
set_option linter.unusedSimpArgs false
def upB (b : UInt8) : UInt8 := if 97 ≤ b ∧ b ≤ 122 then b - 32 else b
def lowB (b : UInt8) : UInt8 := if 65 ≤ b ∧ b ≤ 90 then b + 32 else b
def let_ (b : UInt8) : Prop := b = 32 ∨ (97 ≤ b ∧ b ≤ 122) ∨ (65 ≤ b ∧ b ≤ 90)
/-- p: the byte ahead -/
def titleL : UInt8 → List UInt8 → List UInt8
  | _, [] => []
  | p, b :: t => (if p = 32 then upB b else b) :: titleL b t
theorem titleL_len : ∀ (l : List UInt8) (p : UInt8), (titleL p l).length = l.length
  | [], _ => rfl
  | b :: t, p => by rw [titleL, List.length_cons, List.length_cons, titleL_len t b]
/-- the byte ahead of place i -/
def ahead (p : UInt8) (l : List UInt8) (i : Nat) : UInt8 := if i = 0 then p else l.getD (i - 1) 0
theorem titleL_at : ∀ (l : List UInt8) (p : UInt8) (i : Nat), i < l.length → (titleL p l).getD i 0 = if ahead p l i = 32 then upB (l.getD i 0) else l.getD i 0
  | [], p, i, h => by simp at h
  | b :: t, p, 0, h => rfl
  | b :: t, p, i + 1, h => by
    have := titleL_at t b i (by simpa using h)
    rw [titleL]
    have e : ahead p (b :: t) (i + 1) = ahead b t i := by
      unfold ahead
      cases i with
      | zero => rfl
      | succ j => rfl
    rw [e]
    exact this
theorem titleL_append : ∀ (a b : List UInt8) (p : UInt8), titleL p (a ++ b) = titleL p a ++ titleL (a.getLast?.getD p) b
  | [], b, p => rfl
  | x :: t, b, p => by
    rw [List.cons_append, titleL, titleL, titleL_append t b x, List.cons_append]
    congr 2
    cases t with
    | nil => rfl
    | cons y u => rw [List.getLast?_cons_cons]; cases h : (y :: u).getLast? with
      | none => simp at h
      | some z => rfl
set_option maxRecDepth 100000 in
theorem all_low : ∀ i : Fin 256, lowB (upB (UInt8.ofNat i.val)) = lowB (UInt8.ofNat i.val) := by decide
set_option maxRecDepth 100000 in
theorem all_up : ∀ i : Fin 256, upB (upB (UInt8.ofNat i.val)) = upB (UInt8.ofNat i.val) := by decide
theorem of_toNat (b : UInt8) : UInt8.ofNat b.toNat = b := by simp
theorem up_low (b : UInt8) : lowB (upB b) = lowB b := by
  have := all_low ⟨b.toNat, b.toNat_lt⟩
  rwa [of_toNat] at this
theorem up_up (b : UInt8) : upB (upB b) = upB b := by
  have := all_up ⟨b.toNat, b.toNat_lt⟩
  rwa [of_toNat] at this
/-- what the law asks at place i -/
theorem title_ok (l : List UInt8) (i : Nat) (h : i < l.length) : lowB ((titleL 32 l).getD i 0) = lowB (l.getD i 0) ∧ ((i = 0 ∨ l.getD (i - 1) 0 = 32) → upB ((titleL 32 l).getD i 0) = (titleL 32 l).getD i 0) := by
  rw [titleL_at l 32 i h]
  refine ⟨?_, fun h2 => ?_⟩
  · split
    · exact up_low _
    · rfl
  · have : ahead 32 l i = 32 := by
      unfold ahead
      split
      · rfl
      · rename_i hn
        exact h2.resolve_left hn
    rw [if_pos this]
    exact up_up _
end Go.Proofs.YtnjehpjkanfnnaaDoor.TtP
