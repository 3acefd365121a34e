/-
  Proved: what spec.TwSliceFacts returns. Conditions: the slice is nil or begins at a block's head.
-/
import Derived.Test.YtapbnbinoakbhaaSlcS
import Derived.Test.YtapbnbinoakbhaaSlcF
import Derived.RegionTactic
import Derived.BigRegion
namespace Go.Proofs.Ytapbnbinoakbhaa.SlcV
open Go.RowKit Go.Proofs.YtapbnbinoakbhaaW.PrintWords Go.Proofs.Ytapbnbinoakbhaa.Common Go.Proofs.Ytapbnbinoakbhaa.SlcQ Go.Proofs.Ytapbnbinoakbhaa.SlcF Go.Proofs.Ytapbnbinoakbhaa.SlcA Go.Proofs.Ytapbnbinoakbhaa.SlcM
set_option linter.unusedVariables false
set_option linter.unusedSimpArgs false
set_option maxRecDepth 1000000

theorem two_new (w : World) (a b : Array Value) : ((w.alloc (.cells a 56)).alloc (.cells b 56)).heap[w.heap.size]? = some (.cells a 56 (0, 0)) ∧ ((w.alloc (.cells a 56)).alloc (.cells b 56)).heap[w.heap.size + 1]? = some (.cells b 56 (0, 0)) := by
  have h2 := heap_alloc_new (w.alloc (.cells a 56)) (.cells b 56)
  rw [World.size_alloc] at h2
  refine ⟨?_, h2⟩
  have h3 := ((Below.refl (w.alloc (.cells a 56)).heap.size (w.alloc (.cells a 56))).alloc (Nat.le_refl _) (.cells b 56)).block w.heap.size (by rw [World.size_alloc]; omega)
  rw [h3]
  exact heap_alloc_new w _
/-- what is told of a row -/
def factsV (v : Value) (xs : List Int) (i least : Int) : Array Value := #[v, .int .i64 xs.length, .bool ((xs.length : Int) == 0), .int .i64 (getv xs 0), .int .i64 (getv xs ((xs.length : Int) - 1)), .int .i64 (getv xs i), .int .i64 (getv xs i), .int .i64 ((firstGe least xs).getD 0), .bool (hasv xs i), .bool (hasv xs i), .bool (firstGe least xs).isSome, .bool (firstGe least xs).isSome]
set_option maxHeartbeats 4000000 in
theorem facts_in (g c : Nat) (xs : List Int) (k : Nat) (least : Int) (w : World) (hl : xs.length ≤ 4294967296) (h0 : (0 : Int) < xs.length) (hg : g < w.heap.size) (hk : k < xs.length)
    (HC : ∀ m (h : m < xs.length), w.cell? ⟨g, m, none⟩ = some (.int .i64 xs[m])) :
    Calls Try.prog 22 #[.slice (some ⟨g, 0, none⟩) xs.length c, .int .i64 k, .int .i64 least] w fun e w' => e = .returned (.agg (factsV (.slice (some ⟨g, 0, none⟩) xs.length c) xs k least)) ∧ Below w.heap.size w w' := by
  have HQ : Aside0 (∀ m (h : m < xs.length) (X Y : Obj), ((w.alloc X).alloc Y).cell? ⟨g, m, none⟩ = some (.int .i64 xs[m])) := ⟨fun m h X Y => by rw [World.cell?_alloc_past _ _ _ (by rw [World.size_alloc]; show g < _; omega), World.cell?_alloc_past _ _ _ hg]; exact HC m h⟩
  obtain ⟨x0, hx0⟩ : ∃ x0, x0 = xs[0]'(by omega) := ⟨_, rfl⟩
  obtain ⟨xl, hxl⟩ : ∃ xl, xl = xs[xs.length - 1]'(by omega) := ⟨_, rfl⟩
  have g0 : getv xs 0 = x0 := by rw [hx0]; unfold getv; rw [if_pos ⟨by omega, h0⟩]; exact rd_at xs 0 (by omega)
  have hs2 : ((xs.length : Int) - 1).toNat = xs.length - 1 := by omega
  have gl : getv xs ((xs.length : Int) - 1) = xl := by
    rw [hxl]; unfold getv; rw [if_pos ⟨by omega, by omega⟩]
    have := rd_at xs (xs.length - 1) (by omega)
    rwa [show ((xs.length - 1 : Nat) : Int) = (xs.length : Int) - 1 by omega] at this
  have c0 := fun X Y => HQ.out 0 (by omega) X Y
  have cl := fun X Y => HQ.out (xs.length - 1) (by omega) X Y
  rw [← hx0] at c0
  rw [← hxl] at cl
  obtain ⟨xi, hxi⟩ : ∃ xi, xi = xs[k] := ⟨_, rfl⟩
  have gi : getv xs (k : Int) = xi := by rw [hxi]; unfold getv; rw [if_pos ⟨by omega, by omega⟩]; exact rd_at xs k hk
  have hi : hasv xs (k : Int) = true := decide_eq_true ⟨by omega, by omega⟩
  have ci := fun X Y => HQ.out k hk X Y
  rw [← hxi] at ci
  have HV : Aside0 (factsV (.slice (some ⟨g, 0, none⟩) xs.length c) xs k least = #[.slice (some ⟨g, 0, none⟩) xs.length c, .int .i64 xs.length, .bool ((xs.length : Int) == 0), .int .i64 x0, .int .i64 xl, .int .i64 xi, .int .i64 xi, .int .i64 ((firstGe least xs).getD 0), .bool true, .bool true, .bool (firstGe least xs).isSome, .bool (firstGe least xs).isSome]) := ⟨by unfold factsV; rw [g0, gl, gi, hi]⟩
  have hk1 : (k : Int) < xs.length := by omega
  clear hxi gi hi g0 gl
  have hs : IntKind.i64.wrap ((xs.length : Int) - 1) = (xs.length : Int) - 1 := IntWalk.i64_in _ (by omega)
  have hs3 : 0 ≤ (xs.length : Int) - 1 := by omega
  have hs4 : (xs.length : Int) - 1 < xs.length := by omega
  clear HC hx0 hxl
  go_enter Try.func22, Try.ntmps22
  go_wp2
  go_region
  all_goals go_wp2
  all_goals go_region
  all_goals go_wp2
  go_loopw [53] (fun q wr => ∃ m : Nat, Value.int .i64 (m : Int) = q ∧ m ≤ xs.length ∧ wr = ((w.alloc (Obj.cells #[.slice none 0 0, .int .i64 0, .bool false, .int .i64 0, .int .i64 0, .int .i64 0, .int .i64 0, .int .i64 0, .bool false, .bool false, .bool false, .bool false] 56)).alloc (Obj.cells #[(.slice (some ⟨g, 0, none⟩) xs.length c), .int .i64 xs.length, .bool ((xs.length : Int) == 0), .int .i64 x0, .int .i64 xl, .int .i64 xi, .int .i64 xi, .int .i64 0, .bool true, .bool true, .bool false, .bool false] 56)).drew.drew ∧ Aside0 (∀ j (hj : j < xs.length), j < m → xs[j] < least)) (fun q _ => xs.length - (intOf q).toNat)
  case atStart => exact ⟨0, rfl, by omega, rfl, ⟨fun j hj h => by omega⟩⟩
  case round =>
    obtain ⟨m, rfl, hml, rfl, HG⟩ := hrel
    by_cases hlt : m < xs.length
    · obtain ⟨x, hx⟩ : ∃ x, x = xs[m] := ⟨_, rfl⟩
      have hcell := fun X Y => HQ.out m hlt X Y
      rw [← hx] at hcell
      by_cases hge : least ≤ x
      · have HE : Aside0 (firstGe least xs = some x) := ⟨by rw [firstGe_some hlt (fun j hj h => Int.not_le.2 (HG.out j hj h)) (by rw [← hx]; exact hge), hx]⟩
        clear hx HG
        go_wp2
        refine bodyPost_ret (results_single (r := .cell 6 56) (v := .agg #[(.slice (some ⟨g, 0, none⟩) xs.length c), .int .i64 xs.length, .bool ((xs.length : Int) == 0), .int .i64 x0, .int .i64 xl, .int .i64 xi, .int .i64 xi, .int .i64 x, .bool true, .bool true, .bool true, .bool true]) rfl (.cell w.heap.size 56 #[(.slice (some ⟨g, 0, none⟩) xs.length c), .int .i64 xs.length, .bool ((xs.length : Int) == 0), .int .i64 x0, .int .i64 xl, .int .i64 xi, .int .i64 xi, .int .i64 x, .bool true, .bool true, .bool true, .bool true] (0, 0) _ rfl (two_new w _ _).1 Try.underlying56 rfl (by kernel_rfl) .nil)) rfl ⟨?_, ?_⟩
        · rw [HV.out, HE.out]
          rfl
        · repeat (first | exact Below.refl _ _ | apply below_drew1 | apply below_alloc)
      · have HG2 : Aside0 (∀ j (hj : j < xs.length), j < m + 1 → xs[j] < least) := ⟨fun j hj h => by
          by_cases e : j < m
          · exact HG.out j hj e
          · obtain rfl : j = m := by omega
            rw [← hx]; exact Int.not_le.1 hge⟩
        clear hx HG
        go_wp2
        go_roundw
        case rel => exact ⟨m + 1, by go_num, by omega, by first | rfl | trivial, HG2⟩
        case measure => simp [intOf]; omega
    · have HE : Aside0 (firstGe least xs = none) := ⟨firstGe_none (fun j hj => Int.not_le.2 (HG.out j hj (by omega)))⟩
      clear HG
      go_wp2
      refine bodyPost_ret (results_single (r := .cell 6 56) (v := .agg #[(.slice (some ⟨g, 0, none⟩) xs.length c), .int .i64 xs.length, .bool ((xs.length : Int) == 0), .int .i64 x0, .int .i64 xl, .int .i64 xi, .int .i64 xi, .int .i64 0, .bool true, .bool true, .bool false, .bool false]) rfl (.cell w.heap.size 56 #[(.slice (some ⟨g, 0, none⟩) xs.length c), .int .i64 xs.length, .bool ((xs.length : Int) == 0), .int .i64 x0, .int .i64 xl, .int .i64 xi, .int .i64 xi, .int .i64 0, .bool true, .bool true, .bool false, .bool false] (0, 0) _ rfl (two_new w _ _).1 Try.underlying56 rfl (by kernel_rfl) .nil)) rfl ⟨?_, ?_⟩
      · rw [HV.out, HE.out]
        rfl
      · repeat (first | exact Below.refl _ _ | apply below_drew1 | apply below_alloc)
set_option maxHeartbeats 4000000 in
theorem facts_out (g c : Nat) (xs : List Int) (i : Int) (least : Int) (w : World) (hl : xs.length ≤ 4294967296) (h0 : (0 : Int) < xs.length) (hg : g < w.heap.size) (hi : ¬ (0 ≤ i ∧ i < xs.length))
    (HC : ∀ m (h : m < xs.length), w.cell? ⟨g, m, none⟩ = some (.int .i64 xs[m])) :
    Calls Try.prog 22 #[.slice (some ⟨g, 0, none⟩) xs.length c, .int .i64 i, .int .i64 least] w fun e w' => e = .returned (.agg (factsV (.slice (some ⟨g, 0, none⟩) xs.length c) xs i least)) ∧ Below w.heap.size w w' := by
  have HQ : Aside0 (∀ m (h : m < xs.length) (X Y : Obj), ((w.alloc X).alloc Y).cell? ⟨g, m, none⟩ = some (.int .i64 xs[m])) := ⟨fun m h X Y => by rw [World.cell?_alloc_past _ _ _ (by rw [World.size_alloc]; show g < _; omega), World.cell?_alloc_past _ _ _ hg]; exact HC m h⟩
  obtain ⟨x0, hx0⟩ : ∃ x0, x0 = xs[0]'(by omega) := ⟨_, rfl⟩
  obtain ⟨xl, hxl⟩ : ∃ xl, xl = xs[xs.length - 1]'(by omega) := ⟨_, rfl⟩
  have g0 : getv xs 0 = x0 := by rw [hx0]; unfold getv; rw [if_pos ⟨by omega, h0⟩]; exact rd_at xs 0 (by omega)
  have hs2 : ((xs.length : Int) - 1).toNat = xs.length - 1 := by omega
  have gl : getv xs ((xs.length : Int) - 1) = xl := by
    rw [hxl]; unfold getv; rw [if_pos ⟨by omega, by omega⟩]
    have := rd_at xs (xs.length - 1) (by omega)
    rwa [show ((xs.length - 1 : Nat) : Int) = (xs.length : Int) - 1 by omega] at this
  have c0 := fun X Y => HQ.out 0 (by omega) X Y
  have cl := fun X Y => HQ.out (xs.length - 1) (by omega) X Y
  rw [← hx0] at c0
  rw [← hxl] at cl
  have gi : getv xs i = 0 := by unfold getv; rw [if_neg hi]
  have hh : hasv xs i = false := decide_eq_false hi
  have HV : Aside0 (factsV (.slice (some ⟨g, 0, none⟩) xs.length c) xs i least = #[.slice (some ⟨g, 0, none⟩) xs.length c, .int .i64 xs.length, .bool ((xs.length : Int) == 0), .int .i64 x0, .int .i64 xl, .int .i64 0, .int .i64 0, .int .i64 ((firstGe least xs).getD 0), .bool false, .bool false, .bool (firstGe least xs).isSome, .bool (firstGe least xs).isSome]) := ⟨by unfold factsV; rw [g0, gl, gi, hh]⟩
  clear gi hh g0 gl
  have hs : IntKind.i64.wrap ((xs.length : Int) - 1) = (xs.length : Int) - 1 := IntWalk.i64_in _ (by omega)
  have hs3 : 0 ≤ (xs.length : Int) - 1 := by omega
  have hs4 : (xs.length : Int) - 1 < xs.length := by omega
  clear HC hx0 hxl
  by_cases hi0 : 0 ≤ i
  · have hi1 : ¬ i < xs.length := fun h => hi ⟨hi0, h⟩
    clear hi
    go_enter Try.func22, Try.ntmps22
    go_wp2
    go_region
    all_goals go_wp2
    go_loopw [53] (fun q wr => ∃ m : Nat, Value.int .i64 (m : Int) = q ∧ m ≤ xs.length ∧ wr = ((w.alloc (Obj.cells #[.slice none 0 0, .int .i64 0, .bool false, .int .i64 0, .int .i64 0, .int .i64 0, .int .i64 0, .int .i64 0, .bool false, .bool false, .bool false, .bool false] 56)).alloc (Obj.cells #[(.slice (some ⟨g, 0, none⟩) xs.length c), .int .i64 xs.length, .bool ((xs.length : Int) == 0), .int .i64 x0, .int .i64 xl, .int .i64 0, .int .i64 0, .int .i64 0, .bool false, .bool false, .bool false, .bool false] 56)).drew ∧ Aside0 (∀ j (hj : j < xs.length), j < m → xs[j] < least)) (fun q _ => xs.length - (intOf q).toNat)
    case atStart => exact ⟨0, rfl, by omega, rfl, ⟨fun j hj h => by omega⟩⟩
    case round =>
      obtain ⟨m, rfl, hml, rfl, HG⟩ := hrel
      by_cases hlt : m < xs.length
      · obtain ⟨x, hx⟩ : ∃ x, x = xs[m] := ⟨_, rfl⟩
        have hcell := fun X Y => HQ.out m hlt X Y
        rw [← hx] at hcell
        by_cases hge : least ≤ x
        · have HE : Aside0 (firstGe least xs = some x) := ⟨by rw [firstGe_some hlt (fun j hj h => Int.not_le.2 (HG.out j hj h)) (by rw [← hx]; exact hge), hx]⟩
          clear hx HG
          go_wp2
          refine bodyPost_ret (results_single (r := .cell 6 56) (v := .agg #[(.slice (some ⟨g, 0, none⟩) xs.length c), .int .i64 xs.length, .bool ((xs.length : Int) == 0), .int .i64 x0, .int .i64 xl, .int .i64 0, .int .i64 0, .int .i64 x, .bool false, .bool false, .bool true, .bool true]) rfl (.cell w.heap.size 56 #[(.slice (some ⟨g, 0, none⟩) xs.length c), .int .i64 xs.length, .bool ((xs.length : Int) == 0), .int .i64 x0, .int .i64 xl, .int .i64 0, .int .i64 0, .int .i64 x, .bool false, .bool false, .bool true, .bool true] (0, 0) _ rfl (two_new w _ _).1 Try.underlying56 rfl (by kernel_rfl) .nil)) rfl ⟨?_, ?_⟩
          · rw [HV.out, HE.out]
            rfl
          · repeat (first | exact Below.refl _ _ | apply below_drew1 | apply below_alloc)
        · have HG2 : Aside0 (∀ j (hj : j < xs.length), j < m + 1 → xs[j] < least) := ⟨fun j hj h => by
            by_cases e : j < m
            · exact HG.out j hj e
            · obtain rfl : j = m := by omega
              rw [← hx]; exact Int.not_le.1 hge⟩
          clear hx HG
          go_wp2
          go_roundw
          case rel => exact ⟨m + 1, by go_num, by omega, by first | rfl | trivial, HG2⟩
          case measure => simp [intOf]; omega
      · have HE : Aside0 (firstGe least xs = none) := ⟨firstGe_none (fun j hj => Int.not_le.2 (HG.out j hj (by omega)))⟩
        clear HG
        go_wp2
        refine bodyPost_ret (results_single (r := .cell 6 56) (v := .agg #[(.slice (some ⟨g, 0, none⟩) xs.length c), .int .i64 xs.length, .bool ((xs.length : Int) == 0), .int .i64 x0, .int .i64 xl, .int .i64 0, .int .i64 0, .int .i64 0, .bool false, .bool false, .bool false, .bool false]) rfl (.cell w.heap.size 56 #[(.slice (some ⟨g, 0, none⟩) xs.length c), .int .i64 xs.length, .bool ((xs.length : Int) == 0), .int .i64 x0, .int .i64 xl, .int .i64 0, .int .i64 0, .int .i64 0, .bool false, .bool false, .bool false, .bool false] (0, 0) _ rfl (two_new w _ _).1 Try.underlying56 rfl (by kernel_rfl) .nil)) rfl ⟨?_, ?_⟩
        · rw [HV.out, HE.out]
          rfl
        · repeat (first | exact Below.refl _ _ | apply below_drew1 | apply below_alloc)
  · clear hi
    go_enter Try.func22, Try.ntmps22
    go_wp2
    go_region
    all_goals go_wp2
    go_loopw [53] (fun q wr => ∃ m : Nat, Value.int .i64 (m : Int) = q ∧ m ≤ xs.length ∧ wr = ((w.alloc (Obj.cells #[.slice none 0 0, .int .i64 0, .bool false, .int .i64 0, .int .i64 0, .int .i64 0, .int .i64 0, .int .i64 0, .bool false, .bool false, .bool false, .bool false] 56)).alloc (Obj.cells #[(.slice (some ⟨g, 0, none⟩) xs.length c), .int .i64 xs.length, .bool ((xs.length : Int) == 0), .int .i64 x0, .int .i64 xl, .int .i64 0, .int .i64 0, .int .i64 0, .bool false, .bool false, .bool false, .bool false] 56)).drew ∧ Aside0 (∀ j (hj : j < xs.length), j < m → xs[j] < least)) (fun q _ => xs.length - (intOf q).toNat)
    case atStart => exact ⟨0, rfl, by omega, rfl, ⟨fun j hj h => by omega⟩⟩
    case round =>
      obtain ⟨m, rfl, hml, rfl, HG⟩ := hrel
      by_cases hlt : m < xs.length
      · obtain ⟨x, hx⟩ : ∃ x, x = xs[m] := ⟨_, rfl⟩
        have hcell := fun X Y => HQ.out m hlt X Y
        rw [← hx] at hcell
        by_cases hge : least ≤ x
        · have HE : Aside0 (firstGe least xs = some x) := ⟨by rw [firstGe_some hlt (fun j hj h => Int.not_le.2 (HG.out j hj h)) (by rw [← hx]; exact hge), hx]⟩
          clear hx HG
          go_wp2
          refine bodyPost_ret (results_single (r := .cell 6 56) (v := .agg #[(.slice (some ⟨g, 0, none⟩) xs.length c), .int .i64 xs.length, .bool ((xs.length : Int) == 0), .int .i64 x0, .int .i64 xl, .int .i64 0, .int .i64 0, .int .i64 x, .bool false, .bool false, .bool true, .bool true]) rfl (.cell w.heap.size 56 #[(.slice (some ⟨g, 0, none⟩) xs.length c), .int .i64 xs.length, .bool ((xs.length : Int) == 0), .int .i64 x0, .int .i64 xl, .int .i64 0, .int .i64 0, .int .i64 x, .bool false, .bool false, .bool true, .bool true] (0, 0) _ rfl (two_new w _ _).1 Try.underlying56 rfl (by kernel_rfl) .nil)) rfl ⟨?_, ?_⟩
          · rw [HV.out, HE.out]
            rfl
          · repeat (first | exact Below.refl _ _ | apply below_drew1 | apply below_alloc)
        · have HG2 : Aside0 (∀ j (hj : j < xs.length), j < m + 1 → xs[j] < least) := ⟨fun j hj h => by
            by_cases e : j < m
            · exact HG.out j hj e
            · obtain rfl : j = m := by omega
              rw [← hx]; exact Int.not_le.1 hge⟩
          clear hx HG
          go_wp2
          go_roundw
          case rel => exact ⟨m + 1, by go_num, by omega, by first | rfl | trivial, HG2⟩
          case measure => simp [intOf]; omega
      · have HE : Aside0 (firstGe least xs = none) := ⟨firstGe_none (fun j hj => Int.not_le.2 (HG.out j hj (by omega)))⟩
        clear HG
        go_wp2
        refine bodyPost_ret (results_single (r := .cell 6 56) (v := .agg #[(.slice (some ⟨g, 0, none⟩) xs.length c), .int .i64 xs.length, .bool ((xs.length : Int) == 0), .int .i64 x0, .int .i64 xl, .int .i64 0, .int .i64 0, .int .i64 0, .bool false, .bool false, .bool false, .bool false]) rfl (.cell w.heap.size 56 #[(.slice (some ⟨g, 0, none⟩) xs.length c), .int .i64 xs.length, .bool ((xs.length : Int) == 0), .int .i64 x0, .int .i64 xl, .int .i64 0, .int .i64 0, .int .i64 0, .bool false, .bool false, .bool false, .bool false] (0, 0) _ rfl (two_new w _ _).1 Try.underlying56 rfl (by kernel_rfl) .nil)) rfl ⟨?_, ?_⟩
        · rw [HV.out, HE.out]
          rfl
        · repeat (first | exact Below.refl _ _ | apply below_drew1 | apply below_alloc)
set_option maxHeartbeats 4000000 in
theorem facts_nil (A : Option Addr) (c : Nat) (i least : Int) (w : World) :
    Calls Try.prog 22 #[.slice A 0 c, .int .i64 i, .int .i64 least] w fun e w' => e = .returned (.agg (factsV (.slice A 0 c) [] i least)) ∧ Below w.heap.size w w' := by
  have gi : getv [] i = 0 := by unfold getv; rw [if_neg (by simp only [List.length_nil]; omega)]
  have hh : hasv [] i = false := decide_eq_false (by simp only [List.length_nil]; omega)
  have HV : factsV (.slice A 0 c) [] i least = #[.slice A 0 c, .int .i64 0, .bool true, .int .i64 0, .int .i64 0, .int .i64 0, .int .i64 0, .int .i64 0, .bool false, .bool false, .bool false, .bool false] := by
    unfold factsV
    rw [gi, hh]
    rfl
  rw [HV]
  clear HV gi hh
  by_cases hi0 : 0 ≤ i
  · have hi1 : ¬ i < 0 := by omega
    go_enter Try.func22, Try.ntmps22
    go_wp2
    refine wp_loop_rounds 1 ?_
    rw [rounds_succ]
    go_wp2
    exact bodyPost_ret (results_single (r := .cell 6 56) (v := .agg #[.slice A 0 c, .int .i64 0, .bool true, .int .i64 0, .int .i64 0, .int .i64 0, .int .i64 0, .int .i64 0, .bool false, .bool false, .bool false, .bool false]) rfl (.cell w.heap.size 56 _ (0, 0) _ rfl (two_new w _ _).1 Try.underlying56 rfl (by kernel_rfl) .nil)) rfl ⟨rfl, below_alloc (below_alloc (Below.refl _ _) _) _⟩
  · go_enter Try.func22, Try.ntmps22
    go_wp2
    refine wp_loop_rounds 1 ?_
    rw [rounds_succ]
    go_wp2
    exact bodyPost_ret (results_single (r := .cell 6 56) (v := .agg #[.slice A 0 c, .int .i64 0, .bool true, .int .i64 0, .int .i64 0, .int .i64 0, .int .i64 0, .int .i64 0, .bool false, .bool false, .bool false, .bool false]) rfl (.cell w.heap.size 56 _ (0, 0) _ rfl (two_new w _ _).1 Try.underlying56 rfl (by kernel_rfl) .nil)) rfl ⟨rfl, below_alloc (below_alloc (Below.refl _ _) _) _⟩
end Go.Proofs.Ytapbnbinoakbhaa.SlcV
