/-
  Proved: what Contains and Find of tw.Slicer[int] return with the test 'at least a number' that stands in a captured variable. Conditions: the slice reads as the list said.
-/
import Derived.Test.YtapbnbinoakbhaaSlcQ
namespace Go.Proofs.Ytapbnbinoakbhaa.SlcF
open Go.RowKit Go.Proofs.YtapbnbinoakbhaaW.PrintWords Go.Proofs.Ytapbnbinoakbhaa.Common Go.Proofs.Ytapbnbinoakbhaa.SlcQ
set_option linter.unusedVariables false
set_option linter.unusedSimpArgs false
set_option maxRecDepth 1000000

theorem ge1_c (x least : Int) (B : Nat) (w : World) (h : w.cell? ⟨B, 0, none⟩ = some (.int .i64 least)) :
    Calls Try.prog 51 #[.int .i64 x, .pointer (some ⟨B, 0, none⟩)] w fun e w' => e = .returned (.bool (decide (least ≤ x))) ∧ w' = w := by
  go_enter Try.func51, Try.ntmps51
  go_wp2
  go_ret
  exact ⟨rfl, rfl⟩
theorem ge2_c (x least : Int) (B : Nat) (w : World) (h : w.cell? ⟨B, 0, none⟩ = some (.int .i64 least)) :
    Calls Try.prog 54 #[.int .i64 x, .pointer (some ⟨B, 0, none⟩)] w fun e w' => e = .returned (.bool (decide (least ≤ x))) ∧ w' = w := by
  go_enter Try.func54, Try.ntmps54
  go_wp2
  go_ret
  exact ⟨rfl, rfl⟩
def anyGe (least : Int) (xs : List Int) : Bool := xs.any fun x => decide (least ≤ x)
def firstGe (least : Int) (xs : List Int) : Option Int := xs.find? fun x => decide (least ≤ x)
theorem firstGe_none {least : Int} {xs : List Int} (h : ∀ j (hj : j < xs.length), ¬ least ≤ xs[j]) : firstGe least xs = none := by
  refine List.find?_eq_none.2 fun x hx => ?_
  obtain ⟨j, hj, rfl⟩ := List.mem_iff_getElem.1 hx
  simpa using h j hj
theorem firstGe_some {least : Int} {xs : List Int} {m : Nat} (hm : m < xs.length) (h : ∀ j (hj : j < xs.length), j < m → ¬ least ≤ xs[j]) (hx : least ≤ xs[m]) : firstGe least xs = some xs[m] := by
  unfold firstGe
  rw [List.find?_eq_some_iff_getElem]
  exact ⟨by simpa using hx, m, hm, rfl, fun j hj => by simpa using h j (by omega) hj⟩
set_option maxHeartbeats 2000000 in
theorem index_c (A : Option Addr) (c B : Nat) (least : Int) (xs : List Int) (w : World) (h : CI w A xs) (hc : xs.length ≤ c) (hm : xs.length ≤ 4611686018427387904) (hB : w.cell? ⟨B, 0, none⟩ = some (.int .i64 least)) :
    Calls Try.prog 77 #[.slice A xs.length c, .func (.func 51) #[] #[.pointer (some ⟨B, 0, none⟩)]] w fun e w' => ∃ r : Int, e = .returned (.int .i64 r) ∧ decide (0 ≤ r) = (firstGe least xs).isSome ∧ w' = w := by
  have HR := Aside0.mk h
  have C := fun x => Aside0.mk (ge1_c x least B w hB)
  clear h
  go_enter Try.func77, Try.ntmps77
  go_wp2
  go_loopw [8] (fun i wr => ∃ m : Nat, Value.int .i64 (m : Int) = i ∧ m ≤ xs.length ∧ wr = w ∧ Aside0 (∀ j (hj : j < xs.length), j < m → xs[j] < least)) (fun i _ => xs.length - (intOf i).toNat)
  case atStart => exact ⟨0, rfl, by omega, rfl, ⟨fun j hj h => by omega⟩⟩
  case round =>
    obtain ⟨m, rfl, hml, rfl, HG⟩ := hrel
    by_cases hlt : m < xs.length
    · obtain ⟨ad, e, hcell⟩ := Kd.at_int HR.out (m : Int) (by omega) (by omega)
      cases e
      rw [rd_at _ _ hlt] at hcell
      obtain ⟨x, hx⟩ : ∃ x, x = xs[m] := ⟨_, rfl⟩
      rw [← hx] at hcell
      simp only [Int.toNat_natCast] at hcell
      have Cx := C x
      clear C
      by_cases hge : least ≤ x
      · have HE : Aside0 ((firstGe least xs).isSome = true) := ⟨by rw [firstGe_some hlt (fun j hj h => Int.not_le.2 (HG.out j hj h)) (by rw [← hx]; exact hge)]; rfl⟩
        rw [decide_eq_true hge] at Cx
        clear hx hge HR
        go_wp2_with (go_at_call 51; refine Cx.out.mono ?_; rintro e w1 ⟨rfl, rfl⟩)
        go_ret
        exact ⟨_, rfl, by rw [HE.out]; exact decide_eq_true (by omega), rfl⟩
      · have HG2 : Aside0 (∀ j (hj : j < xs.length), j < m + 1 → xs[j] < least) := ⟨fun j hj h => by
          by_cases e : j < m
          · exact HG.out j hj e
          · obtain rfl : j = m := by omega
            rw [← hx]; exact Int.not_le.1 hge⟩
        rw [decide_eq_false hge] at Cx
        clear hx hge HR
        go_wp2_with (go_at_call 51; refine Cx.out.mono ?_; rintro e w1 ⟨rfl, rfl⟩)
        go_roundw
        case rel => exact ⟨m + 1, by go_num, by omega, by first | rfl | trivial, HG2⟩
        case measure => simp [intOf]; omega
    · have HE : Aside0 ((firstGe least xs).isSome = false) := ⟨by rw [firstGe_none (fun j hj => Int.not_le.2 (HG.out j hj (by omega)))]; rfl⟩
      clear C HR HG
      go_wp2
      go_ret
      exact ⟨_, rfl, by rw [HE.out]; rfl, rfl⟩
theorem containsF_c (A : Option Addr) (c B : Nat) (least : Int) (xs : List Int) (w : World) (h : CI w A xs) (hc : xs.length ≤ c) (hm : xs.length ≤ 4611686018427387904) (hB : w.cell? ⟨B, 0, none⟩ = some (.int .i64 least)) :
    Calls Try.prog 74 #[.slice A xs.length c, .func (.func 51) #[] #[.pointer (some ⟨B, 0, none⟩)]] w fun e w' => e = .returned (.bool (firstGe least xs).isSome) ∧ w' = w := by
  have I := Aside0.mk (index_c A c B least xs w h hc hm hB)
  clear h hB
  go_enter Try.func74, Try.ntmps74
  go_wp2_with (go_at_call 77; refine I.out.mono ?_; rintro e w1 ⟨r, rfl, hr, rfl⟩; have HRr := Aside0.mk hr; clear hr)
  go_ret
  exact ⟨by rw [← HRr.out]; rfl, rfl⟩
theorem contains_c (A : Option Addr) (c B : Nat) (least : Int) (xs : List Int) (w : World) (h : CI w A xs) (hc : xs.length ≤ c) (hm : xs.length ≤ 4611686018427387904) (hB : w.cell? ⟨B, 0, none⟩ = some (.int .i64 least)) :
    Calls Try.prog 50 #[.slice A xs.length c, .func (.func 51) #[] #[.pointer (some ⟨B, 0, none⟩)]] w fun e w' => e = .returned (.bool (firstGe least xs).isSome) ∧ w' = w := by
  have I := Aside0.mk (containsF_c A c B least xs w h hc hm hB)
  clear h hB
  go_enter Try.func50, Try.ntmps50
  go_wp2_with (go_at_call 74; refine I.out.mono ?_; rintro e w1 ⟨rfl, rfl⟩)
  go_ret
  exact ⟨rfl, rfl⟩
set_option maxHeartbeats 2000000 in
theorem find_c (A : Option Addr) (c B : Nat) (least : Int) (xs : List Int) (w : World) (h : CI w A xs) (hc : xs.length ≤ c) (hm : xs.length ≤ 4611686018427387904) (hB : w.cell? ⟨B, 0, none⟩ = some (.int .i64 least)) :
    Calls Try.prog 53 #[.slice A xs.length c, .func (.func 54) #[] #[.pointer (some ⟨B, 0, none⟩)]] w fun e w' => e = .returned (.tuple #[.int .i64 ((firstGe least xs).getD 0), .bool (firstGe least xs).isSome]) ∧ w' = w := by
  have HR := Aside0.mk h
  have C := fun x => Aside0.mk (ge2_c x least B w hB)
  clear h
  go_enter Try.func53, Try.ntmps53
  go_wp2
  go_loopw [11] (fun i wr => ∃ m : Nat, Value.int .i64 (m : Int) = i ∧ m ≤ xs.length ∧ wr = w ∧ Aside0 (∀ j (hj : j < xs.length), j < m → xs[j] < least)) (fun i _ => xs.length - (intOf i).toNat)
  case atStart => exact ⟨0, rfl, by omega, rfl, ⟨fun j hj h => by omega⟩⟩
  case round =>
    obtain ⟨m, rfl, hml, rfl, HG⟩ := hrel
    by_cases hlt : m < xs.length
    · obtain ⟨ad, e, hcell⟩ := Kd.at_int HR.out (m : Int) (by omega) (by omega)
      cases e
      rw [rd_at _ _ hlt] at hcell
      obtain ⟨x, hx⟩ : ∃ x, x = xs[m] := ⟨_, rfl⟩
      rw [← hx] at hcell
      simp only [Int.toNat_natCast] at hcell
      have Cx := C x
      clear C
      by_cases hge : least ≤ x
      · have HE : Aside0 (firstGe least xs = some x) := ⟨by rw [firstGe_some hlt (fun j hj h => Int.not_le.2 (HG.out j hj h)) (by rw [← hx]; exact hge), hx]⟩
        rw [decide_eq_true hge] at Cx
        clear hx hge HR
        go_wp2_with (go_at_call 54; refine Cx.out.mono ?_; rintro e w1 ⟨rfl, rfl⟩)
        go_ret2
        exact ⟨by rw [HE.out]; rfl, rfl⟩
      · have HG2 : Aside0 (∀ j (hj : j < xs.length), j < m + 1 → xs[j] < least) := ⟨fun j hj h => by
          by_cases e : j < m
          · exact HG.out j hj e
          · obtain rfl : j = m := by omega
            rw [← hx]; exact Int.not_le.1 hge⟩
        rw [decide_eq_false hge] at Cx
        clear hx hge HR
        go_wp2_with (go_at_call 54; refine Cx.out.mono ?_; rintro e w1 ⟨rfl, rfl⟩)
        go_roundw
        case rel => exact ⟨m + 1, by go_num, by omega, by first | rfl | trivial, HG2⟩
        case measure => simp [intOf]; omega
    · have HE : Aside0 (firstGe least xs = none) := ⟨firstGe_none (fun j hj => Int.not_le.2 (HG.out j hj (by omega)))⟩
      clear C HR HG
      go_wp2
      go_ret2
      exact ⟨by rw [HE.out]; rfl, rfl⟩
end Go.Proofs.Ytapbnbinoakbhaa.SlcF
