/-
  Proved: what the reading methods of tw.Slicer[int] return (Len, IsEmpty, First, Last, Get, GetOK, Has). Conditions: the slice reads as the list said.
-/
import Derived.Test.YtapbnbinoakbhaaCommon
import Derived.Test.YtapbnbinoakbhaaWMore
import Derived.Test.YtapbnbinoakbhaaProg
import Derived.WalkKit
import Derived.Lib.SliceRun
namespace Go.Proofs.Ytapbnbinoakbhaa.SlcQ
open Go.RowKit Go.Proofs.YtapbnbinoakbhaaW.PrintWords Go.Proofs.Ytapbnbinoakbhaa.Common
set_option linter.unusedVariables false
set_option linter.unusedSimpArgs false
set_option maxRecDepth 1000000

abbrev CI (w : World) (A : Option Addr) (xs : List Int) : Prop := Kd.C (Kd.int .i64) w A xs.length xs
def getv (xs : List Int) (i : Int) : Int := if 0 ≤ i ∧ i < xs.length then rd xs i else 0
def hasv (xs : List Int) (i : Int) : Bool := decide (0 ≤ i ∧ i < xs.length)
theorem nil_of {w : World} {xs : List Int} (h : CI w none xs) : xs = [] := by
  by_cases h0 : 0 < xs.length
  · obtain ⟨ad, e, _⟩ := Kd.at_int h 0 (by omega) (by omega)
    cases e
  · exact List.eq_nil_of_length_eq_zero (by omega)
theorem eqnil : ∀ (w : World) (a : Option Addr) (n c : Nat), (binOp .eql 113 (.slice a n c) (.slice none 0 0)).run Try.prog w = .ok (.bool a.isNone) w := fun w a n c => Lib.run_eql_slice_nil w 113 3 a n c 0 0 Try.underlying113
theorem len_c (A : Option Addr) (c : Nat) (xs : List Int) (w : World) (h : CI w A xs) (hc : xs.length ≤ c) (hm : xs.length ≤ 4611686018427387904) :
    Calls Try.prog 44 #[.slice A xs.length c] w fun e w' => e = .returned (.int .i64 xs.length) ∧ w' = w := by
  cases A with
  | none =>
    obtain rfl := nil_of h
    clear h
    have hen := eqnil
    go_enter Try.func44, Try.ntmps44
    go_wp2
    go_ret
    exact ⟨rfl, rfl⟩
  | some ad =>
    clear h
    have hen := eqnil
    go_enter Try.func44, Try.ntmps44
    go_wp2
    go_ret
    exact ⟨rfl, rfl⟩
theorem empty_c (A : Option Addr) (c : Nat) (xs : List Int) (w : World) (h : CI w A xs) (hc : xs.length ≤ c) (hm : xs.length ≤ 4611686018427387904) :
    Calls Try.prog 45 #[.slice A xs.length c] w fun e w' => e = .returned (.bool ((xs.length : Int) == 0)) ∧ w' = w := by
  have L := Aside0.mk (len_c A c xs w h hc hm)
  clear h
  go_enter Try.func45, Try.ntmps45
  go_wp2_with (go_at_call 44; refine L.out.mono ?_; rintro e w1 ⟨rfl, rfl⟩)
  go_ret
  exact ⟨rfl, rfl⟩
theorem get_c (A : Option Addr) (c : Nat) (xs : List Int) (i : Int) (w : World) (h : CI w A xs) (hc : xs.length ≤ c) (hm : xs.length ≤ 4611686018427387904) :
    Calls Try.prog 48 #[.slice A xs.length c, .int .i64 i] w fun e w' => e = .returned (.int .i64 (getv xs i)) ∧ w' = w := by
  unfold getv
  cases A with
  | none =>
    obtain rfl := nil_of h
    clear h
    rw [if_neg (by simp only [List.length_nil]; omega)]
    have hen := eqnil
    go_enter Try.func48, Try.ntmps48
    go_wp2
    go_ret
    exact ⟨rfl, rfl⟩
  | some ad =>
    by_cases hi : 0 ≤ i ∧ i < xs.length
    · obtain ⟨ad', e, hcell⟩ := Kd.at_int h i hi.1 hi.2
      cases e
      rw [if_pos hi]
      obtain ⟨h0, h1⟩ := hi
      clear h
      have hen := eqnil
      go_enter Try.func48, Try.ntmps48
      go_wp2
      go_ret
      exact ⟨rfl, rfl⟩
    · rw [if_neg hi]
      clear h
      by_cases h0 : 0 ≤ i
      · have h1 : ¬ i < xs.length := fun h => hi ⟨h0, h⟩
        clear hi
        have hen := eqnil
        go_enter Try.func48, Try.ntmps48
        go_wp2
        go_ret
        exact ⟨rfl, rfl⟩
      · clear hi
        have hen := eqnil
        go_enter Try.func48, Try.ntmps48
        go_wp2
        go_ret
        exact ⟨rfl, rfl⟩
theorem getok_c (A : Option Addr) (c : Nat) (xs : List Int) (i : Int) (w : World) (h : CI w A xs) (hc : xs.length ≤ c) (hm : xs.length ≤ 4611686018427387904) :
    Calls Try.prog 52 #[.slice A xs.length c, .int .i64 i] w fun e w' => e = .returned (.tuple #[.int .i64 (getv xs i), .bool (hasv xs i)]) ∧ w' = w := by
  unfold getv hasv
  cases A with
  | none =>
    obtain rfl := nil_of h
    clear h
    rw [if_neg (by simp only [List.length_nil]; omega), decide_eq_false (by simp only [List.length_nil]; omega)]
    have hen := eqnil
    go_enter Try.func52, Try.ntmps52
    go_wp2
    go_ret2
    exact ⟨rfl, rfl⟩
  | some ad =>
    by_cases hi : 0 ≤ i ∧ i < xs.length
    · obtain ⟨ad', e, hcell⟩ := Kd.at_int h i hi.1 hi.2
      cases e
      rw [if_pos hi, decide_eq_true hi]
      obtain ⟨h0, h1⟩ := hi
      clear h
      have hen := eqnil
      go_enter Try.func52, Try.ntmps52
      go_wp2
      go_ret2
      exact ⟨rfl, rfl⟩
    · rw [if_neg hi, decide_eq_false hi]
      clear h
      by_cases h0 : 0 ≤ i
      · have h1 : ¬ i < xs.length := fun h => hi ⟨h0, h⟩
        clear hi
        have hen := eqnil
        go_enter Try.func52, Try.ntmps52
        go_wp2
        go_ret2
        exact ⟨rfl, rfl⟩
      · clear hi
        have hen := eqnil
        go_enter Try.func52, Try.ntmps52
        go_wp2
        go_ret2
        exact ⟨rfl, rfl⟩
theorem first_c (A : Option Addr) (c : Nat) (xs : List Int) (w : World) (h : CI w A xs) (hc : xs.length ≤ c) (hm : xs.length ≤ 4611686018427387904) :
    Calls Try.prog 46 #[.slice A xs.length c] w fun e w' => e = .returned (.int .i64 (getv xs 0)) ∧ w' = w := by
  have L := Aside0.mk (get_c A c xs 0 w h hc hm)
  clear h
  go_enter Try.func46, Try.ntmps46
  go_wp2_with (go_at_call 48; refine L.out.mono ?_; rintro e w1 ⟨rfl, rfl⟩)
  go_ret
  exact ⟨rfl, rfl⟩
theorem last_c (A : Option Addr) (c : Nat) (xs : List Int) (w : World) (h : CI w A xs) (hc : xs.length ≤ c) (hm : xs.length ≤ 4611686018427387904) :
    Calls Try.prog 47 #[.slice A xs.length c] w fun e w' => e = .returned (.int .i64 (getv xs ((xs.length : Int) - 1))) ∧ w' = w := by
  have L := Aside0.mk (len_c A c xs w h hc hm)
  have L2 := Aside0.mk (get_c A c xs ((xs.length : Int) - 1) w h hc hm)
  clear h
  go_enter Try.func47, Try.ntmps47
  go_wp2_with (first
    | (go_at_call 44; refine L.out.mono ?_; rintro e w1 ⟨rfl, rfl⟩)
    | (go_at_call 48; refine L2.out.mono ?_; rintro e w2 ⟨rfl, rfl⟩))
  go_ret
  exact ⟨rfl, rfl⟩
theorem has_c (A : Option Addr) (c : Nat) (xs : List Int) (i : Int) (w : World) (h : CI w A xs) (hc : xs.length ≤ c) (hm : xs.length ≤ 4611686018427387904) :
    Calls Try.prog 49 #[.slice A xs.length c, .int .i64 i] w fun e w' => e = .returned (.bool (hasv xs i)) ∧ w' = w := by
  have L := Aside0.mk (len_c A c xs w h hc hm)
  clear h
  unfold hasv
  by_cases h0 : 0 ≤ i
  · go_enter Try.func49, Try.ntmps49
    go_wp2_with (go_at_call 44; refine L.out.mono ?_; rintro e w1 ⟨rfl, rfl⟩)
    go_ret
    exact ⟨by simp [h0], rfl⟩
  · rw [decide_eq_false (fun h => h0 h.1)]
    go_enter Try.func49, Try.ntmps49
    go_wp2_with (go_at_call 44; refine L.out.mono ?_; rintro e w1 ⟨rfl, rfl⟩)
    go_ret
    exact ⟨rfl, rfl⟩
end Go.Proofs.Ytapbnbinoakbhaa.SlcQ
