/-
  Proved: what impl.TwSymbolsCustom returns: the name, and its symbols, the last one told for each place. Conditions: each place from 0 to 13, at least as many texts as places.
-/
import Derived.Test.YtjoagjkmghmnnaaProg
import Derived.Test.YtjoagjkmghmnnaaWWords
import Derived.WalkKit
import Derived.Lib.Hide
import Derived.Deep.LoopGhost
namespace Go.Proofs.Ytjoagjkmghmnnaa.GivenSym
open Go.RowKit Go.Proofs.YtjoagjkmghmnnaaW.PrintWords
set_option linter.unusedVariables false

theorem with0 (g : Nat) (s : ByteArray) (u : Value) (w : World) (hc : w.cell? ⟨g, 1, none⟩ = some u) (hf : w.frozen? ⟨g, 1, none⟩ = false) :
    Calls Try.prog 89 #[.pointer (some ⟨g, 0, none⟩), .string s] w fun e w' => e = .returned (.pointer (some ⟨g, 0, none⟩)) ∧ w' = w.setCell ⟨g, 1, none⟩ (.string s) := by
  go_enter Try.func89, Try.ntmps89
  go_wp2
  go_ret
  exact ⟨rfl, rfl⟩
set_option maxRecDepth 100000 in
set_option maxHeartbeats 400000 in
theorem custom0 (g : Nat) (s : ByteArray) (u : Value) (w : World) (hc : w.cell? ⟨g, 1, none⟩ = some u) (hf : w.frozen? ⟨g, 1, none⟩ = false) :
    Calls Try.prog 57 #[.pointer (some ⟨g, 0, none⟩), .int .i64 0, .string s] w fun e w' => e = .returned (.tuple #[]) ∧ w' = w.setCell ⟨g, 1, none⟩ (.string s) := by
  have H := Lib.hid (with0 g s u w hc hf)
  clear hc hf
  go_enter Try.func57, Try.ntmps57
  go_wp2_with (go_at_call 89; refine H.out.mono ?_; rintro e w' ⟨rfl, rfl⟩)
  go_end0
  exact ⟨rfl, rfl⟩
theorem with1 (g : Nat) (s : ByteArray) (u : Value) (w : World) (hc : w.cell? ⟨g, 2, none⟩ = some u) (hf : w.frozen? ⟨g, 2, none⟩ = false) :
    Calls Try.prog 90 #[.pointer (some ⟨g, 0, none⟩), .string s] w fun e w' => e = .returned (.pointer (some ⟨g, 0, none⟩)) ∧ w' = w.setCell ⟨g, 2, none⟩ (.string s) := by
  go_enter Try.func90, Try.ntmps90
  go_wp2
  go_ret
  exact ⟨rfl, rfl⟩
set_option maxRecDepth 100000 in
set_option maxHeartbeats 400000 in
theorem custom1 (g : Nat) (s : ByteArray) (u : Value) (w : World) (hc : w.cell? ⟨g, 2, none⟩ = some u) (hf : w.frozen? ⟨g, 2, none⟩ = false) :
    Calls Try.prog 57 #[.pointer (some ⟨g, 0, none⟩), .int .i64 1, .string s] w fun e w' => e = .returned (.tuple #[]) ∧ w' = w.setCell ⟨g, 2, none⟩ (.string s) := by
  have H := Lib.hid (with1 g s u w hc hf)
  clear hc hf
  go_enter Try.func57, Try.ntmps57
  go_wp2_with (go_at_call 90; refine H.out.mono ?_; rintro e w' ⟨rfl, rfl⟩)
  go_end0
  exact ⟨rfl, rfl⟩
theorem with2 (g : Nat) (s : ByteArray) (u : Value) (w : World) (hc : w.cell? ⟨g, 3, none⟩ = some u) (hf : w.frozen? ⟨g, 3, none⟩ = false) :
    Calls Try.prog 91 #[.pointer (some ⟨g, 0, none⟩), .string s] w fun e w' => e = .returned (.pointer (some ⟨g, 0, none⟩)) ∧ w' = w.setCell ⟨g, 3, none⟩ (.string s) := by
  go_enter Try.func91, Try.ntmps91
  go_wp2
  go_ret
  exact ⟨rfl, rfl⟩
set_option maxRecDepth 100000 in
set_option maxHeartbeats 400000 in
theorem custom2 (g : Nat) (s : ByteArray) (u : Value) (w : World) (hc : w.cell? ⟨g, 3, none⟩ = some u) (hf : w.frozen? ⟨g, 3, none⟩ = false) :
    Calls Try.prog 57 #[.pointer (some ⟨g, 0, none⟩), .int .i64 2, .string s] w fun e w' => e = .returned (.tuple #[]) ∧ w' = w.setCell ⟨g, 3, none⟩ (.string s) := by
  have H := Lib.hid (with2 g s u w hc hf)
  clear hc hf
  go_enter Try.func57, Try.ntmps57
  go_wp2_with (go_at_call 91; refine H.out.mono ?_; rintro e w' ⟨rfl, rfl⟩)
  go_end0
  exact ⟨rfl, rfl⟩
theorem with3 (g : Nat) (s : ByteArray) (u : Value) (w : World) (hc : w.cell? ⟨g, 4, none⟩ = some u) (hf : w.frozen? ⟨g, 4, none⟩ = false) :
    Calls Try.prog 92 #[.pointer (some ⟨g, 0, none⟩), .string s] w fun e w' => e = .returned (.pointer (some ⟨g, 0, none⟩)) ∧ w' = w.setCell ⟨g, 4, none⟩ (.string s) := by
  go_enter Try.func92, Try.ntmps92
  go_wp2
  go_ret
  exact ⟨rfl, rfl⟩
set_option maxRecDepth 100000 in
set_option maxHeartbeats 400000 in
theorem custom3 (g : Nat) (s : ByteArray) (u : Value) (w : World) (hc : w.cell? ⟨g, 4, none⟩ = some u) (hf : w.frozen? ⟨g, 4, none⟩ = false) :
    Calls Try.prog 57 #[.pointer (some ⟨g, 0, none⟩), .int .i64 3, .string s] w fun e w' => e = .returned (.tuple #[]) ∧ w' = w.setCell ⟨g, 4, none⟩ (.string s) := by
  have H := Lib.hid (with3 g s u w hc hf)
  clear hc hf
  go_enter Try.func57, Try.ntmps57
  go_wp2_with (go_at_call 92; refine H.out.mono ?_; rintro e w' ⟨rfl, rfl⟩)
  go_end0
  exact ⟨rfl, rfl⟩
theorem with4 (g : Nat) (s : ByteArray) (u : Value) (w : World) (hc : w.cell? ⟨g, 5, none⟩ = some u) (hf : w.frozen? ⟨g, 5, none⟩ = false) :
    Calls Try.prog 93 #[.pointer (some ⟨g, 0, none⟩), .string s] w fun e w' => e = .returned (.pointer (some ⟨g, 0, none⟩)) ∧ w' = w.setCell ⟨g, 5, none⟩ (.string s) := by
  go_enter Try.func93, Try.ntmps93
  go_wp2
  go_ret
  exact ⟨rfl, rfl⟩
set_option maxRecDepth 100000 in
set_option maxHeartbeats 400000 in
theorem custom4 (g : Nat) (s : ByteArray) (u : Value) (w : World) (hc : w.cell? ⟨g, 5, none⟩ = some u) (hf : w.frozen? ⟨g, 5, none⟩ = false) :
    Calls Try.prog 57 #[.pointer (some ⟨g, 0, none⟩), .int .i64 4, .string s] w fun e w' => e = .returned (.tuple #[]) ∧ w' = w.setCell ⟨g, 5, none⟩ (.string s) := by
  have H := Lib.hid (with4 g s u w hc hf)
  clear hc hf
  go_enter Try.func57, Try.ntmps57
  go_wp2_with (go_at_call 93; refine H.out.mono ?_; rintro e w' ⟨rfl, rfl⟩)
  go_end0
  exact ⟨rfl, rfl⟩
theorem with5 (g : Nat) (s : ByteArray) (u : Value) (w : World) (hc : w.cell? ⟨g, 6, none⟩ = some u) (hf : w.frozen? ⟨g, 6, none⟩ = false) :
    Calls Try.prog 94 #[.pointer (some ⟨g, 0, none⟩), .string s] w fun e w' => e = .returned (.pointer (some ⟨g, 0, none⟩)) ∧ w' = w.setCell ⟨g, 6, none⟩ (.string s) := by
  go_enter Try.func94, Try.ntmps94
  go_wp2
  go_ret
  exact ⟨rfl, rfl⟩
set_option maxRecDepth 100000 in
set_option maxHeartbeats 400000 in
theorem custom5 (g : Nat) (s : ByteArray) (u : Value) (w : World) (hc : w.cell? ⟨g, 6, none⟩ = some u) (hf : w.frozen? ⟨g, 6, none⟩ = false) :
    Calls Try.prog 57 #[.pointer (some ⟨g, 0, none⟩), .int .i64 5, .string s] w fun e w' => e = .returned (.tuple #[]) ∧ w' = w.setCell ⟨g, 6, none⟩ (.string s) := by
  have H := Lib.hid (with5 g s u w hc hf)
  clear hc hf
  go_enter Try.func57, Try.ntmps57
  go_wp2_with (go_at_call 94; refine H.out.mono ?_; rintro e w' ⟨rfl, rfl⟩)
  go_end0
  exact ⟨rfl, rfl⟩
theorem with6 (g : Nat) (s : ByteArray) (u : Value) (w : World) (hc : w.cell? ⟨g, 7, none⟩ = some u) (hf : w.frozen? ⟨g, 7, none⟩ = false) :
    Calls Try.prog 95 #[.pointer (some ⟨g, 0, none⟩), .string s] w fun e w' => e = .returned (.pointer (some ⟨g, 0, none⟩)) ∧ w' = w.setCell ⟨g, 7, none⟩ (.string s) := by
  go_enter Try.func95, Try.ntmps95
  go_wp2
  go_ret
  exact ⟨rfl, rfl⟩
set_option maxRecDepth 100000 in
set_option maxHeartbeats 400000 in
theorem custom6 (g : Nat) (s : ByteArray) (u : Value) (w : World) (hc : w.cell? ⟨g, 7, none⟩ = some u) (hf : w.frozen? ⟨g, 7, none⟩ = false) :
    Calls Try.prog 57 #[.pointer (some ⟨g, 0, none⟩), .int .i64 6, .string s] w fun e w' => e = .returned (.tuple #[]) ∧ w' = w.setCell ⟨g, 7, none⟩ (.string s) := by
  have H := Lib.hid (with6 g s u w hc hf)
  clear hc hf
  go_enter Try.func57, Try.ntmps57
  go_wp2_with (go_at_call 95; refine H.out.mono ?_; rintro e w' ⟨rfl, rfl⟩)
  go_end0
  exact ⟨rfl, rfl⟩
theorem with7 (g : Nat) (s : ByteArray) (u : Value) (w : World) (hc : w.cell? ⟨g, 8, none⟩ = some u) (hf : w.frozen? ⟨g, 8, none⟩ = false) :
    Calls Try.prog 96 #[.pointer (some ⟨g, 0, none⟩), .string s] w fun e w' => e = .returned (.pointer (some ⟨g, 0, none⟩)) ∧ w' = w.setCell ⟨g, 8, none⟩ (.string s) := by
  go_enter Try.func96, Try.ntmps96
  go_wp2
  go_ret
  exact ⟨rfl, rfl⟩
set_option maxRecDepth 100000 in
set_option maxHeartbeats 400000 in
theorem custom7 (g : Nat) (s : ByteArray) (u : Value) (w : World) (hc : w.cell? ⟨g, 8, none⟩ = some u) (hf : w.frozen? ⟨g, 8, none⟩ = false) :
    Calls Try.prog 57 #[.pointer (some ⟨g, 0, none⟩), .int .i64 7, .string s] w fun e w' => e = .returned (.tuple #[]) ∧ w' = w.setCell ⟨g, 8, none⟩ (.string s) := by
  have H := Lib.hid (with7 g s u w hc hf)
  clear hc hf
  go_enter Try.func57, Try.ntmps57
  go_wp2_with (go_at_call 96; refine H.out.mono ?_; rintro e w' ⟨rfl, rfl⟩)
  go_end0
  exact ⟨rfl, rfl⟩
theorem with8 (g : Nat) (s : ByteArray) (u : Value) (w : World) (hc : w.cell? ⟨g, 9, none⟩ = some u) (hf : w.frozen? ⟨g, 9, none⟩ = false) :
    Calls Try.prog 97 #[.pointer (some ⟨g, 0, none⟩), .string s] w fun e w' => e = .returned (.pointer (some ⟨g, 0, none⟩)) ∧ w' = w.setCell ⟨g, 9, none⟩ (.string s) := by
  go_enter Try.func97, Try.ntmps97
  go_wp2
  go_ret
  exact ⟨rfl, rfl⟩
set_option maxRecDepth 100000 in
set_option maxHeartbeats 400000 in
theorem custom8 (g : Nat) (s : ByteArray) (u : Value) (w : World) (hc : w.cell? ⟨g, 9, none⟩ = some u) (hf : w.frozen? ⟨g, 9, none⟩ = false) :
    Calls Try.prog 57 #[.pointer (some ⟨g, 0, none⟩), .int .i64 8, .string s] w fun e w' => e = .returned (.tuple #[]) ∧ w' = w.setCell ⟨g, 9, none⟩ (.string s) := by
  have H := Lib.hid (with8 g s u w hc hf)
  clear hc hf
  go_enter Try.func57, Try.ntmps57
  go_wp2_with (go_at_call 97; refine H.out.mono ?_; rintro e w' ⟨rfl, rfl⟩)
  go_end0
  exact ⟨rfl, rfl⟩
theorem with9 (g : Nat) (s : ByteArray) (u : Value) (w : World) (hc : w.cell? ⟨g, 10, none⟩ = some u) (hf : w.frozen? ⟨g, 10, none⟩ = false) :
    Calls Try.prog 98 #[.pointer (some ⟨g, 0, none⟩), .string s] w fun e w' => e = .returned (.pointer (some ⟨g, 0, none⟩)) ∧ w' = w.setCell ⟨g, 10, none⟩ (.string s) := by
  go_enter Try.func98, Try.ntmps98
  go_wp2
  go_ret
  exact ⟨rfl, rfl⟩
set_option maxRecDepth 100000 in
set_option maxHeartbeats 400000 in
theorem custom9 (g : Nat) (s : ByteArray) (u : Value) (w : World) (hc : w.cell? ⟨g, 10, none⟩ = some u) (hf : w.frozen? ⟨g, 10, none⟩ = false) :
    Calls Try.prog 57 #[.pointer (some ⟨g, 0, none⟩), .int .i64 9, .string s] w fun e w' => e = .returned (.tuple #[]) ∧ w' = w.setCell ⟨g, 10, none⟩ (.string s) := by
  have H := Lib.hid (with9 g s u w hc hf)
  clear hc hf
  go_enter Try.func57, Try.ntmps57
  go_wp2_with (go_at_call 98; refine H.out.mono ?_; rintro e w' ⟨rfl, rfl⟩)
  go_end0
  exact ⟨rfl, rfl⟩
theorem with10 (g : Nat) (s : ByteArray) (u : Value) (w : World) (hc : w.cell? ⟨g, 11, none⟩ = some u) (hf : w.frozen? ⟨g, 11, none⟩ = false) :
    Calls Try.prog 99 #[.pointer (some ⟨g, 0, none⟩), .string s] w fun e w' => e = .returned (.pointer (some ⟨g, 0, none⟩)) ∧ w' = w.setCell ⟨g, 11, none⟩ (.string s) := by
  go_enter Try.func99, Try.ntmps99
  go_wp2
  go_ret
  exact ⟨rfl, rfl⟩
set_option maxRecDepth 100000 in
set_option maxHeartbeats 400000 in
theorem custom10 (g : Nat) (s : ByteArray) (u : Value) (w : World) (hc : w.cell? ⟨g, 11, none⟩ = some u) (hf : w.frozen? ⟨g, 11, none⟩ = false) :
    Calls Try.prog 57 #[.pointer (some ⟨g, 0, none⟩), .int .i64 10, .string s] w fun e w' => e = .returned (.tuple #[]) ∧ w' = w.setCell ⟨g, 11, none⟩ (.string s) := by
  have H := Lib.hid (with10 g s u w hc hf)
  clear hc hf
  go_enter Try.func57, Try.ntmps57
  go_wp2_with (go_at_call 99; refine H.out.mono ?_; rintro e w' ⟨rfl, rfl⟩)
  go_end0
  exact ⟨rfl, rfl⟩
theorem with11 (g : Nat) (s : ByteArray) (u : Value) (w : World) (hc : w.cell? ⟨g, 12, none⟩ = some u) (hf : w.frozen? ⟨g, 12, none⟩ = false) :
    Calls Try.prog 100 #[.pointer (some ⟨g, 0, none⟩), .string s] w fun e w' => e = .returned (.pointer (some ⟨g, 0, none⟩)) ∧ w' = w.setCell ⟨g, 12, none⟩ (.string s) := by
  go_enter Try.func100, Try.ntmps100
  go_wp2
  go_ret
  exact ⟨rfl, rfl⟩
set_option maxRecDepth 100000 in
set_option maxHeartbeats 400000 in
theorem custom11 (g : Nat) (s : ByteArray) (u : Value) (w : World) (hc : w.cell? ⟨g, 12, none⟩ = some u) (hf : w.frozen? ⟨g, 12, none⟩ = false) :
    Calls Try.prog 57 #[.pointer (some ⟨g, 0, none⟩), .int .i64 11, .string s] w fun e w' => e = .returned (.tuple #[]) ∧ w' = w.setCell ⟨g, 12, none⟩ (.string s) := by
  have H := Lib.hid (with11 g s u w hc hf)
  clear hc hf
  go_enter Try.func57, Try.ntmps57
  go_wp2_with (go_at_call 100; refine H.out.mono ?_; rintro e w' ⟨rfl, rfl⟩)
  go_end0
  exact ⟨rfl, rfl⟩
theorem with12 (g : Nat) (s : ByteArray) (u : Value) (w : World) (hc : w.cell? ⟨g, 13, none⟩ = some u) (hf : w.frozen? ⟨g, 13, none⟩ = false) :
    Calls Try.prog 101 #[.pointer (some ⟨g, 0, none⟩), .string s] w fun e w' => e = .returned (.pointer (some ⟨g, 0, none⟩)) ∧ w' = w.setCell ⟨g, 13, none⟩ (.string s) := by
  go_enter Try.func101, Try.ntmps101
  go_wp2
  go_ret
  exact ⟨rfl, rfl⟩
set_option maxRecDepth 100000 in
set_option maxHeartbeats 400000 in
theorem custom12 (g : Nat) (s : ByteArray) (u : Value) (w : World) (hc : w.cell? ⟨g, 13, none⟩ = some u) (hf : w.frozen? ⟨g, 13, none⟩ = false) :
    Calls Try.prog 57 #[.pointer (some ⟨g, 0, none⟩), .int .i64 12, .string s] w fun e w' => e = .returned (.tuple #[]) ∧ w' = w.setCell ⟨g, 13, none⟩ (.string s) := by
  have H := Lib.hid (with12 g s u w hc hf)
  clear hc hf
  go_enter Try.func57, Try.ntmps57
  go_wp2_with (go_at_call 101; refine H.out.mono ?_; rintro e w' ⟨rfl, rfl⟩)
  go_end0
  exact ⟨rfl, rfl⟩
theorem with13 (g : Nat) (s : ByteArray) (u : Value) (w : World) (hc : w.cell? ⟨g, 14, none⟩ = some u) (hf : w.frozen? ⟨g, 14, none⟩ = false) :
    Calls Try.prog 102 #[.pointer (some ⟨g, 0, none⟩), .string s] w fun e w' => e = .returned (.pointer (some ⟨g, 0, none⟩)) ∧ w' = w.setCell ⟨g, 14, none⟩ (.string s) := by
  go_enter Try.func102, Try.ntmps102
  go_wp2
  go_ret
  exact ⟨rfl, rfl⟩
set_option maxRecDepth 100000 in
set_option maxHeartbeats 400000 in
theorem custom13 (g : Nat) (s : ByteArray) (u : Value) (w : World) (hc : w.cell? ⟨g, 14, none⟩ = some u) (hf : w.frozen? ⟨g, 14, none⟩ = false) :
    Calls Try.prog 57 #[.pointer (some ⟨g, 0, none⟩), .int .i64 13, .string s] w fun e w' => e = .returned (.tuple #[]) ∧ w' = w.setCell ⟨g, 14, none⟩ (.string s) := by
  have H := Lib.hid (with13 g s u w hc hf)
  clear hc hf
  go_enter Try.func57, Try.ntmps57
  go_wp2_with (go_at_call 102; refine H.out.mono ?_; rintro e w' ⟨rfl, rfl⟩)
  go_end0
  exact ⟨rfl, rfl⟩
end Go.Proofs.Ytjoagjkmghmnnaa.GivenSym
