/-
  Proved: what the methods of table.pager return and store. Conditions: the pager lies in a block of its own; it is at one of its pages.
-/
import Derived.Test.YtkfkhafmgndgaaaRRProg
import Derived.Test.YtkfkhafmgndgaaaRRWWords
import Derived.WalkKit
import Derived.Lib.Hide
import Derived.Deep.QuietTactic
import Derived.BigQuiet
namespace Go.Proofs.YtkfkhafmgndgaaaRR.Pager
open Go.RowKit Go.Proofs.YtkfkhafmgndgaaaRRW.PrintWords
set_option linter.unusedVariables false

/-- the pager's block -/
def PgB (w : World) (g : Nat) (at_ : Nat) (A : Option Addr) (n c : Nat) : Prop := w.heap[g]? = some (.cells #[.int .i64 (at_ : Int), .slice A n c, .int .i64 0] 89 (0, 0))
theorem PgB.cell {w : World} {g at_ n c : Nat} {A : Option Addr} (h : PgB w g at_ A n c) : w.cell? ⟨g, 0, none⟩ = some (.int .i64 (at_ : Int)) ∧ w.cell? ⟨g, 1, none⟩ = some (.slice A n c) ∧ w.frozen? ⟨g, 0, none⟩ = false :=
  ⟨cell_of_row w g 0 _ 89 (0, 0) h, cell_of_row w g 1 _ 89 (0, 0) h, by unfold PgB at h; simp [World.frozen?, h]⟩
theorem PgB.drewN {w : World} {g at_ n c : Nat} {A : Option Addr} (h : PgB w g at_ A n c) (m : Nat) : PgB (w.drewN m) g at_ A n c := h
theorem PgB.set_ {w : World} {g at_ n c : Nat} {A : Option Addr} (h : PgB w g at_ A n c) (k : Nat) : PgB (w.setCell ⟨g, 0, none⟩ (.int .i64 (k : Int))) g k A n c := by
  unfold PgB at h ⊢
  simp [World.setCell, Array.getElem?_modify, h]
theorem set_drewN (w : World) (p : Addr) (v : Value) (m : Nat) : (w.drewN m).setCell p v = (w.setCell p v).drewN m := rfl
theorem set_far {w : World} {g : Nat} {p : Addr} (hp : p.block ≠ g) (v : Value) (m : Nat) : ((w.drewN m).setCell ⟨g, 0, none⟩ v).cell? p = w.cell? p := by
  rw [World.cell?_setCell_other _ _ _ _ (fun e => by subst e; exact hp rfl)]
  rfl
set_option maxHeartbeats 800000 in
theorem render_any (g n c : Nat) (ad : Addr) (hn : n ≤ 9223372036854775806) (w : World) (hg : w.frozen? ⟨g, 0, none⟩ = false) (h1 : w.cell? ⟨g, 1, none⟩ = some (.slice (some ad) n c)) (k : Nat) (h0 : w.cell? ⟨g, 0, none⟩ = some (.int .i64 (k : Int))) (hk : k < n) (s : ByteArray) (hx : w.cell? (ad.add k) = some (.string s)) :
    Calls Try.prog 86 #[.pointer (some ⟨g, 0, none⟩)] w fun e w' => e = .returned (.string s) ∧ ∃ m, w' = w.drewN m := by
  clear hg
  have hki : (k : Int) < (n : Int) := by omega
  have hk0 : (0 : Int) ≤ (k : Int) := by omega
  go_enter Try.func86, Try.ntmps86
  go_wp2_with fail
  go_quiet (fail)
  go_wp2
  go_ret
  first | exact ⟨rfl, _, rfl⟩ | exact ⟨rfl, _, World.drewN_drewN _ _ _⟩ | exact ⟨rfl, _, (congrArg (fun x : World => x.drewN _) (set_drewN _ _ _ _)).trans (World.drewN_drewN _ _ _)⟩
set_option maxHeartbeats 800000 in
theorem loc_any (g n c : Nat) (ad : Addr) (hn : n ≤ 9223372036854775806) (w : World) (hg : w.frozen? ⟨g, 0, none⟩ = false) (h1 : w.cell? ⟨g, 1, none⟩ = some (.slice (some ad) n c)) (k : Nat) (h0 : w.cell? ⟨g, 0, none⟩ = some (.int .i64 (k : Int))) (hk : k < n) :
    Calls Try.prog 83 #[.pointer (some ⟨g, 0, none⟩)] w fun e w' => e = .returned (.int .i64 ((k : Int) + 1)) ∧ w' = w := by
  clear hg h1
  have hki : (k : Int) < 9223372036854775806 := by omega
  have hk0 : (0 : Int) ≤ (k : Int) := by omega
  go_enter Try.func83, Try.ntmps83
  go_wp2
  go_ret
  exact ⟨rfl, rfl⟩
set_option maxHeartbeats 800000 in
theorem next_up (g n c : Nat) (ad : Addr) (hn : n ≤ 9223372036854775806) (w : World) (hg : w.frozen? ⟨g, 0, none⟩ = false) (h1 : w.cell? ⟨g, 1, none⟩ = some (.slice (some ad) n c)) (k : Nat) (h0 : w.cell? ⟨g, 0, none⟩ = some (.int .i64 (k : Int))) (hk : k + 1 < n) (s : ByteArray) (hx : w.cell? ⟨ad.block, ad.off + (k + 1), none⟩ = some (.string s)) (hxb : ∀ m, ((w.drewN m).setCell ⟨g, 0, none⟩ (.int .i64 ((k : Int) + 1))).cell? ⟨ad.block, ad.off + (k + 1), none⟩ = some (.string s)) :
    Calls Try.prog 84 #[.pointer (some ⟨g, 0, none⟩)] w fun e w' => e = .returned (.string s) ∧ ∃ m, w' = (w.setCell ⟨g, 0, none⟩ (.int .i64 ((k : Int) + 1))).drewN m := by
  have hki : (k : Int) + 1 < (n : Int) := by omega
  have hk2 : (k : Int) < (n : Int) - 1 := by omega
  have hk0 : (0 : Int) ≤ (k : Int) := by omega
  have hk3 : (0 : Int) ≤ (k : Int) + 1 := by omega
  have ht : ((k : Int) + 1).toNat = k + 1 := by omega
  go_enter Try.func84, Try.ntmps84
  go_wp2_with fail
  go_quiet (fail)
  go_wp2_with fail
  go_quiet (fail)
  go_wp2
  go_ret
  first | exact ⟨rfl, _, rfl⟩ | exact ⟨rfl, _, World.drewN_drewN _ _ _⟩ | exact ⟨rfl, _, (congrArg (fun x : World => x.drewN _) (set_drewN _ _ _ _)).trans (World.drewN_drewN _ _ _)⟩
set_option maxHeartbeats 800000 in
theorem next_stay (g n c : Nat) (ad : Addr) (hn : n ≤ 9223372036854775806) (w : World) (hg : w.frozen? ⟨g, 0, none⟩ = false) (h1 : w.cell? ⟨g, 1, none⟩ = some (.slice (some ad) n c)) (k : Nat) (h0 : w.cell? ⟨g, 0, none⟩ = some (.int .i64 (k : Int))) (hk : k + 1 = n) (s : ByteArray) (hx : w.cell? (ad.add k) = some (.string s)) :
    Calls Try.prog 84 #[.pointer (some ⟨g, 0, none⟩)] w fun e w' => e = .returned (.string s) ∧ ∃ m, w' = w.drewN m := by
  clear hg
  have hki : (k : Int) < (n : Int) := by omega
  have hk2 : ¬ (k : Int) < (n : Int) - 1 := by omega
  have hk0 : (0 : Int) ≤ (k : Int) := by omega
  clear hk
  go_enter Try.func84, Try.ntmps84
  go_wp2_with fail
  go_quiet (fail)
  go_wp2_with fail
  go_quiet (fail)
  go_wp2
  go_ret
  first | exact ⟨rfl, _, rfl⟩ | exact ⟨rfl, _, World.drewN_drewN _ _ _⟩ | exact ⟨rfl, _, (congrArg (fun x : World => x.drewN _) (set_drewN _ _ _ _)).trans (World.drewN_drewN _ _ _)⟩
set_option maxHeartbeats 800000 in
theorem prev_down (g n c : Nat) (ad : Addr) (hn : n ≤ 9223372036854775806) (w : World) (hg : w.frozen? ⟨g, 0, none⟩ = false) (h1 : w.cell? ⟨g, 1, none⟩ = some (.slice (some ad) n c)) (k : Nat) (h0 : w.cell? ⟨g, 0, none⟩ = some (.int .i64 (k : Int))) (hk : k < n) (hp : 0 < k) (s : ByteArray) (hx : (w.setCell ⟨g, 0, none⟩ (.int .i64 ((k : Int) - 1))).cell? (ad.add (k - 1)) = some (.string s)) :
    Calls Try.prog 85 #[.pointer (some ⟨g, 0, none⟩)] w fun e w' => e = .returned (.string s) ∧ ∃ m, w' = (w.setCell ⟨g, 0, none⟩ (.int .i64 ((k : Int) - 1))).drewN m := by
  have hki : (k : Int) - 1 < (n : Int) := by omega
  have hk2 : (0 : Int) < (k : Int) := by omega
  have hk3 : (0 : Int) ≤ (k : Int) - 1 := by omega
  have hk4 : (1 : Int) ≤ (k : Int) := by omega
  have ht : ((k : Int) - 1).toNat = k - 1 := by omega
  go_enter Try.func85, Try.ntmps85
  go_wp2_with fail
  go_quiet (fail)
  go_wp2
  go_ret
  first | exact ⟨rfl, _, rfl⟩ | exact ⟨rfl, _, World.drewN_drewN _ _ _⟩ | exact ⟨rfl, _, (congrArg (fun x : World => x.drewN _) (set_drewN _ _ _ _)).trans (World.drewN_drewN _ _ _)⟩
set_option maxHeartbeats 800000 in
theorem prev_stay (g n c : Nat) (ad : Addr) (hn : n ≤ 9223372036854775806) (w : World) (hg : w.frozen? ⟨g, 0, none⟩ = false) (h1 : w.cell? ⟨g, 1, none⟩ = some (.slice (some ad) n c)) (h0 : w.cell? ⟨g, 0, none⟩ = some (.int .i64 0)) (hk : 0 < n) (s : ByteArray) (hx : w.cell? ad = some (.string s)) :
    Calls Try.prog 85 #[.pointer (some ⟨g, 0, none⟩)] w fun e w' => e = .returned (.string s) ∧ ∃ m, w' = w.drewN m := by
  clear hg
  have hki : (0 : Int) < (n : Int) := by omega
  go_enter Try.func85, Try.ntmps85
  go_wp2_with fail
  go_quiet (fail)
  go_wp2
  go_ret
  first | exact ⟨rfl, _, rfl⟩ | exact ⟨rfl, _, World.drewN_drewN _ _ _⟩ | exact ⟨rfl, _, (congrArg (fun x : World => x.drewN _) (set_drewN _ _ _ _)).trans (World.drewN_drewN _ _ _)⟩
set_option maxHeartbeats 800000 in
theorem goto_low (g n c : Nat) (ad : Addr) (hn : n ≤ 9223372036854775806) (w : World) (hg : w.frozen? ⟨g, 0, none⟩ = false) (h1 : w.cell? ⟨g, 1, none⟩ = some (.slice (some ad) n c)) (k : Nat) (h0 : w.cell? ⟨g, 0, none⟩ = some (.int .i64 (k : Int))) (hk : 0 < n) (p : Int) (hpr : -9223372036854775808 ≤ p ∧ p ≤ 9223372036854775807) (hp : p < 1) (s : ByteArray) (hx : (w.setCell ⟨g, 0, none⟩ (.int .i64 (0))).cell? ad = some (.string s)) :
    Calls Try.prog 82 #[.pointer (some ⟨g, 0, none⟩), .int .i64 p] w fun e w' => e = .returned (.string s) ∧ ∃ m, w' = (w.setCell ⟨g, 0, none⟩ (.int .i64 (0))).drewN m := by
  have hn1 : ¬ (n : Int) < 1 := by omega
  have hn2 : (0 : Int) < (n : Int) := by omega
  go_enter Try.func82, Try.ntmps82
  go_wp2_with fail
  go_quiet (fail)
  go_wp2
  go_ret
  first | exact ⟨rfl, _, rfl⟩ | exact ⟨rfl, _, World.drewN_drewN _ _ _⟩ | exact ⟨rfl, _, (congrArg (fun x : World => x.drewN _) (set_drewN _ _ _ _)).trans (World.drewN_drewN _ _ _)⟩
set_option maxHeartbeats 800000 in
theorem goto_high (g n c : Nat) (ad : Addr) (hn : n ≤ 9223372036854775806) (w : World) (hg : w.frozen? ⟨g, 0, none⟩ = false) (h1 : w.cell? ⟨g, 1, none⟩ = some (.slice (some ad) n c)) (k : Nat) (h0 : w.cell? ⟨g, 0, none⟩ = some (.int .i64 (k : Int))) (hk : 0 < n) (p : Int) (hpr : -9223372036854775808 ≤ p ∧ p ≤ 9223372036854775807) (hp : (n : Int) < p)  (s : ByteArray) (hx : (w.setCell ⟨g, 0, none⟩ (.int .i64 ((n : Int) - 1))).cell? (ad.add (n - 1)) = some (.string s)) :
    Calls Try.prog 82 #[.pointer (some ⟨g, 0, none⟩), .int .i64 p] w fun e w' => e = .returned (.string s) ∧ ∃ m, w' = (w.setCell ⟨g, 0, none⟩ (.int .i64 ((n : Int) - 1))).drewN m := by
  have hn1 : ¬ p < 1 := by omega
  have hn3 : (0 : Int) ≤ (n : Int) - 1 := by omega
  have hn4 : (n : Int) - 1 < (n : Int) := by omega
  have ht : ((n : Int) - 1).toNat = n - 1 := by omega
  go_enter Try.func82, Try.ntmps82
  go_wp2_with fail
  go_quiet (fail)
  go_wp2
  go_ret
  first | exact ⟨rfl, _, rfl⟩ | exact ⟨rfl, _, World.drewN_drewN _ _ _⟩ | exact ⟨rfl, _, (congrArg (fun x : World => x.drewN _) (set_drewN _ _ _ _)).trans (World.drewN_drewN _ _ _)⟩
set_option maxHeartbeats 800000 in
theorem goto_mid (g n c : Nat) (ad : Addr) (hn : n ≤ 9223372036854775806) (w : World) (hg : w.frozen? ⟨g, 0, none⟩ = false) (h1 : w.cell? ⟨g, 1, none⟩ = some (.slice (some ad) n c)) (k : Nat) (h0 : w.cell? ⟨g, 0, none⟩ = some (.int .i64 (k : Int))) (hk : 0 < n) (j : Nat) (hj : j < n) (s : ByteArray) (hx : (w.setCell ⟨g, 0, none⟩ (.int .i64 (j : Int))).cell? (ad.add j) = some (.string s)) :
    Calls Try.prog 82 #[.pointer (some ⟨g, 0, none⟩), .int .i64 ((j : Int) + 1)] w fun e w' => e = .returned (.string s) ∧ ∃ m, w' = (w.setCell ⟨g, 0, none⟩ (.int .i64 (j : Int))).drewN m := by
  have hn1 : ¬ (j : Int) + 1 < 1 := by omega
  have hn2 : ¬ (n : Int) < (j : Int) + 1 := by omega
  have hn3 : (0 : Int) ≤ (j : Int) := by omega
  have hn4 : (j : Int) < (n : Int) := by omega
  have hn5 : (j : Int) + 1 - 1 = (j : Int) := by omega
  go_enter Try.func82, Try.ntmps82
  go_wp2_with fail
  go_quiet (fail)
  go_wp2
  go_ret
  first | exact ⟨rfl, _, rfl⟩ | exact ⟨rfl, _, World.drewN_drewN _ _ _⟩ | exact ⟨rfl, _, (congrArg (fun x : World => x.drewN _) (set_drewN _ _ _ _)).trans (World.drewN_drewN _ _ _)⟩
end Go.Proofs.YtkfkhafmgndgaaaRR.Pager
