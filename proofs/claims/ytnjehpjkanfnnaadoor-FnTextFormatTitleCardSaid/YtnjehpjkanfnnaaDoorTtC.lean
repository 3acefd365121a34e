/-
  Proved: isSeparator and unicode.ToUpper at letters and blanks of ASCII. Conditions: those alone.
-/
import Derived.Test.YtnjehpjkanfnnaaDoorChecked
import Derived.WalkKit
import Derived.BigCall
import Derived.BigQuiet
import Derived.Below
namespace Go.Proofs.YtnjehpjkanfnnaaDoor.TtC
open Go Go.RowKit
set_option linter.unusedVariables false
set_option linter.unusedSimpArgs false
set_option maxRecDepth 1000000
set_option maxHeartbeats 1000000 in
theorem sep_blank (w : World) : Calls Tryd.prog 27 #[.int .i32 32] w fun e w' => e = .returned (.bool true) ∧ w' = w := by
  go_enter Tryd.func27, Tryd.ntmps27
  go_wp2
  go_ret
  exact ⟨rfl, rfl⟩
set_option maxHeartbeats 1000000 in
theorem sep_letter (w : World) (r : Int) (h : (97 ≤ r ∧ r ≤ 122) ∨ (65 ≤ r ∧ r ≤ 90)) : Calls Tryd.prog 27 #[.int .i32 r] w fun e w' => e = .returned (.bool false) ∧ w' = w := by
  have d1 : decide (r ≤ 127) = true := decide_eq_true (by omega)
  have d2 : decide (48 ≤ r) = true := decide_eq_true (by omega)
  have d3 : decide (r ≤ 57) = false := decide_eq_false (by omega)
  rcases h with ⟨h1, h2⟩ | ⟨h1, h2⟩
  · have d4 : decide (97 ≤ r) = true := decide_eq_true (by omega)
    have d5 : decide (r ≤ 122) = true := decide_eq_true (by omega)
    go_enter Tryd.func27, Tryd.ntmps27
    go_wp2
    go_ret
    exact ⟨rfl, rfl⟩
  · have d4 : decide (97 ≤ r) = false := decide_eq_false (by omega)
    have d6 : decide (65 ≤ r) = true := decide_eq_true (by omega)
    have d7 : decide (r ≤ 90) = true := decide_eq_true (by omega)
    go_enter Tryd.func27, Tryd.ntmps27
    go_wp2
    go_ret
    exact ⟨rfl, rfl⟩
def upI (r : Int) : Int := if 97 ≤ r ∧ r ≤ 122 then r - 32 else r
set_option maxHeartbeats 1000000 in
theorem up_c (w : World) (r : Int) (h : r = 32 ∨ (97 ≤ r ∧ r ≤ 122) ∨ (65 ≤ r ∧ r ≤ 90)) : Calls Tryd.prog 28 #[.int .i32 r] w fun e w' => e = .returned (.int .i32 (upI r)) ∧ w' = w := by
  have d1 : decide (r ≤ 127) = true := decide_eq_true (by omega)
  by_cases hl : 97 ≤ r ∧ r ≤ 122
  · have d2 : decide (97 ≤ r) = true := decide_eq_true hl.1
    have d3 : decide (r ≤ 122) = true := decide_eq_true hl.2
    obtain ⟨h1, h2⟩ := hl
    clear h
    go_enter Tryd.func28, Tryd.ntmps28
    go_wp2
    go_ret
    exact ⟨by unfold upI; rw [if_pos ⟨h1, h2⟩]; rfl, rfl⟩
  · have hb : r ≤ 90 := by omega
    have h0 : 0 ≤ r := by omega
    have d2 : decide (97 ≤ r) = false := decide_eq_false (by omega)
    clear h hl
    go_enter Tryd.func28, Tryd.ntmps28
    go_wp2
    go_ret
    exact ⟨by unfold upI; rw [if_neg (by omega)]; rfl, rfl⟩
/-- what the closure of toTitle does at a letter or a blank: p is the character ahead -/
theorem clo_c (w : World) (r p : Int) (bi bp : Nat) (hr : r = 32 ∨ (97 ≤ r ∧ r ≤ 122) ∨ (65 ≤ r ∧ r ≤ 90)) (hp : p = 32 ∨ (97 ≤ p ∧ p ≤ 122) ∨ (65 ≤ p ∧ p ≤ 90))
    (hi : w.cell? ⟨bi, 0, none⟩ = some (.bool false)) (hq : w.cell? ⟨bp, 0, none⟩ = some (.int .i32 p)) (hf : w.frozen? ⟨bp, 0, none⟩ = false) (hi2 : (w.setCell ⟨bp, 0, none⟩ (.int .i32 r)).cell? ⟨bi, 0, none⟩ = some (.bool false)) :
    Calls Tryd.prog 26 #[.int .i32 r, .pointer (some ⟨bi, 0, none⟩), .pointer (some ⟨bp, 0, none⟩)] w fun e w' => e = .returned (.int .i32 (if p = 32 then upI r else r)) ∧ w' = w.setCell ⟨bp, 0, none⟩ (.int .i32 r) := by
  have d1 : decide (r = 27) = false := decide_eq_false (by omega)
  have d2 : (r == 27) = false := by simp; omega
  by_cases h32 : p = 32
  · subst h32
    rw [if_pos rfl]
    go_enter Tryd.func26, Tryd.ntmps26
    go_wp2_with (first
      | (go_at_call 27; refine (sep_blank w).mono ?_; rintro e w2 ⟨rfl, hw⟩; have hw2 := hw.symm; subst hw2)
      | (go_at_call 28; refine (up_c _ r hr).mono ?_; rintro e w3 ⟨rfl, hw⟩; subst hw))
    go_ret
    exact ⟨rfl, rfl⟩
  · rw [if_neg h32]
    have hp2 : (97 ≤ p ∧ p ≤ 122) ∨ (65 ≤ p ∧ p ≤ 90) := hp.resolve_left h32
    go_enter Tryd.func26, Tryd.ntmps26
    go_wp2_with (go_at_call 27; refine (sep_letter w p hp2).mono ?_; rintro e w2 ⟨rfl, hw⟩; have hw2 := hw.symm; subst hw2)
    go_ret
    exact ⟨rfl, rfl⟩
end Go.Proofs.YtnjehpjkanfnnaaDoor.TtC
