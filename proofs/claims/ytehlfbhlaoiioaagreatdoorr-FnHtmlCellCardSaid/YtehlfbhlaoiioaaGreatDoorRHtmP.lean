/-
  Proved: a cell's text in HTML as a plain function over bytes, and how long it can be. Conditions: none.
-/
import Derived.Test.YtehlfbhlaoiioaaGreatDoorRCommon
namespace Go.Proofs.YtehlfbhlaoiioaaGreatDoorR.HtmP
open Go.Proofs.YtehlfbhlaoiioaaGreatDoorR.Common
set_option linter.unusedVariables false

def escOne (d : UInt8) : List UInt8 :=
  if d = 60 then [38, 108, 116, 59] else if d = 62 then [38, 103, 116, 59] else if d = 38 then [38, 97, 109, 112, 59] else if d = 39 then [38, 35, 51, 57, 59] else if d = 34 then [38, 35, 51, 52, 59] else [d]
def escL (l : List UInt8) : List UInt8 := l.flatMap escOne
def nlL (new l : List UInt8) : List UInt8 := l.flatMap fun d => if d = 10 then new else [d]
def htm (escape : Bool) (new l : List UInt8) : List UInt8 := nlL new (if escape = true then escL l else l)
theorem escOne_len (d : UInt8) : (escOne d).length ≤ 5 := by
  unfold escOne
  repeat' split
  all_goals simp
theorem flat_len {f : UInt8 → List UInt8} (m : Nat) (h : ∀ d, (f d).length ≤ m) : ∀ l : List UInt8, (l.flatMap f).length ≤ m * l.length
  | [] => by simp
  | d :: t => by
    have ih := flat_len m h t
    have h1 := h d
    rw [List.flatMap_cons, List.length_append, List.length_cons, Nat.mul_add, Nat.mul_one]
    omega
theorem escL_len (l : List UInt8) : (escL l).length ≤ 5 * l.length := flat_len 5 escOne_len l
theorem nlL_len (new l : List UInt8) : (nlL new l).length ≤ (new.length + 1) * l.length := flat_len _ (fun d => by split <;> simp) l
theorem nl_id (l : List UInt8) : nlL [10] l = l := by
  unfold nlL
  have : (fun d : UInt8 => if d = 10 then [(10 : UInt8)] else [d]) = fun d => [d] := by
    funext d
    split
    · rename_i h; rw [h]
    · rfl
  rw [this]
  exact List.flatMap_singleton' l
end Go.Proofs.YtehlfbhlaoiioaaGreatDoorR.HtmP
