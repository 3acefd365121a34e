/-
  Proved: what impl.TwState and impl.TwStateOr return, in three cases (1, -1, every other number). Conditions: none.
-/
import Derived.Test.YtjoagjkmghmnnaaRows
import Derived.WalkKit
import Derived.ProofKit
import Derived.OpenShut
import Derived.StillTailTactics
import Derived.Deep.QuietTactic
import Derived.BigQuiet
import Derived.Deep.RegionWith
namespace Go.Proofs.Ytjoagjkmghmnnaa.State0
open Go.ChangeShapes Go.WideShapes Go.ChangeAt Go.RowKit
set_option linter.unusedVariables false

/-- what TwState tells -/
def StPost (a b c d f : Bool) (t : ByteArray) (g : Int) (w : World) (e : Ending) (w' : World) : Prop :=
  e = .returned (.agg #[.bool a, .bool b, .bool c, .string t, .int .i64 g, .bool d, .bool f]) ∧ Grown w w'

theorem c46 (n : Int) (w : World) : Calls Try.prog 46 #[.int .i64 n] w fun e w' => e = .returned (.bool (n == 1)) ∧ w' = w := by
  go_enter Try.func46, Try.ntmps46
  go_wp2
  go_ret
  exact ⟨rfl, rfl⟩
theorem c47 (n : Int) (w : World) : Calls Try.prog 47 #[.int .i64 n] w fun e w' => e = .returned (.bool (n == -1)) ∧ w' = w := by
  go_enter Try.func47, Try.ntmps47
  go_wp2
  go_ret
  exact ⟨rfl, rfl⟩
theorem c48 (n : Int) (w : World) : Calls Try.prog 48 #[.int .i64 n] w fun e w' => e = .returned (.bool (n == 0)) ∧ w' = w := by
  go_enter Try.func48, Try.ntmps48
  go_wp2
  go_ret
  exact ⟨rfl, rfl⟩

theorem c49_on (w : World) : Calls Try.prog 49 #[.int .i64 1] w fun e w' => e = .returned (.string ⟨#[111, 110]⟩) ∧ w' = w := by
  go_enter Try.func49, Try.ntmps49
  go_wp2
  go_ret
  exact ⟨rfl, rfl⟩
theorem c49_off (w : World) : Calls Try.prog 49 #[.int .i64 (-1)] w fun e w' => e = .returned (.string ⟨#[111, 102, 102]⟩) ∧ w' = w := by
  go_enter Try.func49, Try.ntmps49
  go_wp2
  go_ret
  exact ⟨rfl, rfl⟩
theorem c49_un (n : Int) (h : (n == 1) = false) (h' : (n == -1) = false) (w : World) : Calls Try.prog 49 #[.int .i64 n] w fun e w' => e = .returned (.string ⟨#[117, 110, 100, 101, 102, 105, 110, 101, 100]⟩) ∧ w' = w := by
  go_enter Try.func49, Try.ntmps49
  go_wp2
  go_ret
  exact ⟨rfl, rfl⟩
theorem c50_off (w : World) : Calls Try.prog 50 #[.int .i64 (-1)] w fun e w' => e = .returned (.int .i64 1) ∧ w' = w := by
  go_enter Try.func50, Try.ntmps50
  go_wp2
  go_ret
  exact ⟨rfl, rfl⟩
theorem c50 (n : Int) (h' : (n == -1) = false) (w : World) : Calls Try.prog 50 #[.int .i64 n] w fun e w' => e = .returned (.int .i64 (-1)) ∧ w' = w := by
  go_enter Try.func50, Try.ntmps50
  go_wp2
  go_ret
  exact ⟨rfl, rfl⟩

set_option maxRecDepth 100000 in
set_option maxHeartbeats 400000 in
theorem state_on (w : World) : Calls Try.prog 17 #[.int .i64 1] w fun e w' => StPost true false false true true ⟨#[111, 110]⟩ (-1) w e w' := by
  go_enter Try.func17, Try.ntmps17
  go_wp2
  go_still_tail 13, (by kernel_rfl)
  change wpStill _ _ (World.drew _) _ _ _
  (refine wpStill_step (fun K hK => ?_); go_simp; refine ⟨_, c46 1 _, hK _ ?_⟩; clear hK K)
  still_step
  (refine wpStill_step (fun K hK => ?_); go_simp; refine ⟨_, c47 1 _, hK _ ?_⟩; clear hK K)
  still_step
  (refine wpStill_step (fun K hK => ?_); go_simp; refine ⟨_, c48 1 _, hK _ ?_⟩; clear hK K)
  still_step
  (refine wpStill_step (fun K hK => ?_); go_simp; refine ⟨_, c49_on _, hK _ ?_⟩; clear hK K)
  still_step
  (refine wpStill_step (fun K hK => ?_); go_simp; refine ⟨_, c50 1 (by decide) _, hK _ ?_⟩; clear hK K)
  repeat still_step
  refine wpStill_nil ?_
  change wpList _ _ _ _ _ (World.drew _)
  go_wp2
  refine bodyPost_ret (v := .agg #[.bool true, .bool false, .bool false, .string ⟨#[111, 110]⟩, .int .i64 (-1), .bool true, .bool true]) ?_ rfl ⟨rfl, ?_⟩
  · simp [results, Try.results17, go_sem]
  · exact (((Grown.refl _).alloc _ _).alloc _ _).drew
set_option maxRecDepth 100000 in
set_option maxHeartbeats 400000 in
theorem state_off (w : World) : Calls Try.prog 17 #[.int .i64 (-1)] w fun e w' => StPost false true false false false ⟨#[111, 102, 102]⟩ 1 w e w' := by
  go_enter Try.func17, Try.ntmps17
  go_wp2
  go_still_tail 13, (by kernel_rfl)
  change wpStill _ _ (World.drew _) _ _ _
  (refine wpStill_step (fun K hK => ?_); go_simp; refine ⟨_, c46 (-1) _, hK _ ?_⟩; clear hK K)
  still_step
  (refine wpStill_step (fun K hK => ?_); go_simp; refine ⟨_, c47 (-1) _, hK _ ?_⟩; clear hK K)
  still_step
  (refine wpStill_step (fun K hK => ?_); go_simp; refine ⟨_, c48 (-1) _, hK _ ?_⟩; clear hK K)
  still_step
  (refine wpStill_step (fun K hK => ?_); go_simp; refine ⟨_, c49_off _, hK _ ?_⟩; clear hK K)
  still_step
  (refine wpStill_step (fun K hK => ?_); go_simp; refine ⟨_, c50_off _, hK _ ?_⟩; clear hK K)
  repeat still_step
  refine wpStill_nil ?_
  change wpList _ _ _ _ _ (World.drew _)
  go_wp2
  refine bodyPost_ret (v := .agg #[.bool false, .bool true, .bool false, .string ⟨#[111, 102, 102]⟩, .int .i64 1, .bool false, .bool false]) ?_ rfl ⟨rfl, ?_⟩
  · simp [results, Try.results17, go_sem]
  · exact (((Grown.refl _).alloc _ _).alloc _ _).drew
set_option maxRecDepth 100000 in
set_option maxHeartbeats 400000 in
theorem state_un (n : Int) (h1 : (n == 1) = false) (h2 : (n == -1) = false) (w : World) : Calls Try.prog 17 #[.int .i64 n] w fun e w' => StPost false false (n == 0) false false ⟨#[117, 110, 100, 101, 102, 105, 110, 101, 100]⟩ (-1) w e w' := by
  go_enter Try.func17, Try.ntmps17
  go_wp2
  go_still_tail 13, (by kernel_rfl)
  change wpStill _ _ (World.drew _) _ _ _
  (refine wpStill_step (fun K hK => ?_); go_simp; refine ⟨_, c46 n _, hK _ ?_⟩; clear hK K)
  still_step
  (refine wpStill_step (fun K hK => ?_); go_simp; refine ⟨_, c47 n _, hK _ ?_⟩; clear hK K)
  still_step
  (refine wpStill_step (fun K hK => ?_); go_simp; refine ⟨_, c48 n _, hK _ ?_⟩; clear hK K)
  still_step
  (refine wpStill_step (fun K hK => ?_); go_simp; refine ⟨_, c49_un n h1 h2 _, hK _ ?_⟩; clear hK K)
  still_step
  (refine wpStill_step (fun K hK => ?_); go_simp; refine ⟨_, c50 n h2 _, hK _ ?_⟩; clear hK K)
  repeat still_step
  refine wpStill_nil ?_
  change wpList _ _ _ _ _ (World.drew _)
  go_wp2
  refine bodyPost_ret (v := .agg #[.bool false, .bool false, .bool (n == 0), .string ⟨#[117, 110, 100, 101, 102, 105, 110, 101, 100]⟩, .int .i64 (-1), .bool false, .bool false]) ?_ rfl ⟨rfl, ?_⟩
  · simp [results, Try.results17, go_sem]
  · exact (((Grown.refl _).alloc _ _).alloc _ _).drew

theorem or_on (m : Int) (w : World) : Calls Try.prog 18 #[.int .i64 1, .int .i64 m] w fun e w' => e = .returned (.int .i64 1) ∧ w' = w := by
  go_enter Try.func18, Try.ntmps18
  go_wp2
  go_ret
  exact ⟨rfl, rfl⟩
theorem or_un (n m : Int) (h1 : (n == 1) = false) (w : World) : Calls Try.prog 18 #[.int .i64 n, .int .i64 m] w fun e w' => e = .returned (.int .i64 m) ∧ w' = w := by
  go_enter Try.func18, Try.ntmps18
  go_wp2
  go_ret
  exact ⟨rfl, rfl⟩
end Go.Proofs.Ytjoagjkmghmnnaa.State0
