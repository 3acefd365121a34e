/-
  Proved: what the functions of the 256 colors return, and spec.TxSequence of any codes, as plain functions. Conditions: the table of powers of ten reads as laid (for spec.TxSequence); each theorem's own bounds.
-/
import Derived.Test.YtkfkhafmgndgaaaRRDoorItoa0
import Derived.Test.YtkfkhafmgndgaaaRRDoorShItoa
import Derived.Lib.AppendIntMem
import Derived.Lib.SmallJoins
import Derived.Test.YtkfkhafmgndgaaaRRDoorCommon
import Derived.Deep.LoopGhost
namespace Go.Proofs.YtkfkhafmgndgaaaRRDoor.Color
open Go.RowKit Go.Proofs.YtkfkhafmgndgaaaRRDoorW.PrintWords Go.Proofs.YtkfkhafmgndgaaaRRDoor.Common
set_option linter.unusedVariables false

def decB (n : Nat) : ByteArray := ⟨(Lib.decDigits n).toArray⟩
theorem decB_size (n : Nat) (h : n < 18446744073709551616) : (decB n).size ≤ 20 := by
  show (Lib.decDigits n).toArray.size ≤ 20
  rw [List.size_toArray, Lib.decDigits_length]
  exact Itoa0.nd_le 20 n (by omega) (by omega)

theorem fmtInt (n : Nat) (hn : n < 9223372036854775808) (w : World) :
    Calls Tryd.prog 50 #[.int .i64 n, .int .i64 10] w fun e w' => e = .returned (.string (decB n)) ∧ Below w.heap.size w w' := by
  have H := fun w => Lib.hid (Itoa0.fmtUint n (by omega) w)
  go_enter Tryd.func50, Tryd.ntmps50
  go_wp2_with (go_at_call 65; refine (H _).out.mono ?_; rintro e w' ⟨rfl, hb⟩)
  go_ret
  exact ⟨rfl, hb⟩
theorem itoa (n : Nat) (hn : n < 9223372036854775808) (w : World) :
    Calls Tryd.prog 32 #[.int .i64 n] w fun e w' => e = .returned (.string (decB n)) ∧ Below w.heap.size w w' := by
  have H := fun w => Lib.hid (fmtInt n hn w)
  go_enter Tryd.func32, Tryd.ntmps32
  go_wp2_with (go_at_call 50; refine (H _).out.mono ?_; rintro e w' ⟨rfl, hb⟩)
  go_ret
  exact ⟨rfl, hb⟩
theorem fg (n : Nat) (hn : n < 256) (w : World) :
    Calls Tryd.prog 23 #[.int .i64 n] w fun e w' => e = .returned (.int .i64 (1000 + n)) ∧ w' = w := by
  go_enter Tryd.func23, Tryd.ntmps23
  go_wp2_with fail
  go_ret
  exact ⟨rfl, rfl⟩
theorem bg (n : Nat) (hn : n < 256) (w : World) :
    Calls Tryd.prog 25 #[.int .i64 n] w fun e w' => e = .returned (.int .i64 (2000 + n)) ∧ w' = w := by
  go_enter Tryd.func25, Tryd.ntmps25
  go_wp2_with fail
  go_ret
  exact ⟨rfl, rfl⟩
theorem fg9 (n : Nat) (hn : n < 256) (w : World) :
    Calls Tryd.prog 9 #[.int .i64 n] w fun e w' => e = .returned (.int .i64 (1000 + n)) ∧ w' = w := by
  have H := fun w => Lib.hid (fg n hn w)
  go_enter Tryd.func9, Tryd.ntmps9
  go_wp2_with (go_at_call 23; refine (H _).out.mono ?_; rintro e w' ⟨rfl, rfl⟩)
  go_ret
  exact ⟨rfl, rfl⟩
theorem bg11 (n : Nat) (hn : n < 256) (w : World) :
    Calls Tryd.prog 11 #[.int .i64 n] w fun e w' => e = .returned (.int .i64 (2000 + n)) ∧ w' = w := by
  have H := fun w => Lib.hid (bg n hn w)
  go_enter Tryd.func11, Tryd.ntmps11
  go_wp2_with (go_at_call 25; refine (H _).out.mono ?_; rintro e w' ⟨rfl, rfl⟩)
  go_ret
  exact ⟨rfl, rfl⟩

def fgSeq (n : Nat) : ByteArray := (⟨#[27, 91, 51, 56, 59, 53, 59]⟩ ++ decB n) ++ ⟨#[109]⟩
def bgSeq (n : Nat) : ByteArray := (⟨#[27, 91, 52, 56, 59, 53, 59]⟩ ++ decB n) ++ ⟨#[109]⟩
set_option maxRecDepth 100000 in
set_option maxHeartbeats 1000000 in
theorem esc_fg (n : Nat) (hn : n < 256) (w : World) :
    Calls Tryd.prog 22 #[.int .i64 (1000 + n)] w fun e w' => e = .returned (.string (fgSeq n)) ∧ Below w.heap.size w w' := by
  have H := fun w => Lib.hid (itoa n (by omega) w)
  have hs := decB_size n (by omega)
  obtain ⟨D, hD⟩ : ∃ D, D = decB n := ⟨_, rfl⟩
  simp only [fgSeq, ← hD] at H hs ⊢
  clear hD
  have he : (1000 + (n : Int)) - 1000 = n := by omega
  have h1 : 7 + D.size ≤ 9223372036854775807 := by omega
  have h2 : 7 + D.size + 1 ≤ 9223372036854775807 := by omega
  clear hs
  go_enter Tryd.func22, Tryd.ntmps22
  go_wp2_with (go_at_call 32; refine (H _).out.mono ?_; rintro e w' ⟨rfl, hb⟩)
  go_ret
  exact ⟨rfl, hb⟩
set_option maxRecDepth 100000 in
set_option maxHeartbeats 1000000 in
theorem esc_bg (n : Nat) (hn : n < 256) (w : World) :
    Calls Tryd.prog 22 #[.int .i64 (2000 + n)] w fun e w' => e = .returned (.string (bgSeq n)) ∧ Below w.heap.size w w' := by
  have H := fun w => Lib.hid (itoa n (by omega) w)
  have hs := decB_size n (by omega)
  obtain ⟨D, hD⟩ : ∃ D, D = decB n := ⟨_, rfl⟩
  simp only [bgSeq, ← hD] at H hs ⊢
  clear hD
  have he : (2000 + (n : Int)) - 2000 = n := by omega
  have h1 : 7 + D.size ≤ 9223372036854775807 := by omega
  have h2 : 7 + D.size + 1 ≤ 9223372036854775807 := by omega
  clear hs
  go_enter Tryd.func22, Tryd.ntmps22
  go_wp2_with (go_at_call 32; refine (H _).out.mono ?_; rintro e w' ⟨rfl, hb⟩)
  go_ret
  exact ⟨rfl, hb⟩
theorem seq8_fg (n : Nat) (hn : n < 256) (w : World) :
    Calls Tryd.prog 8 #[.int .i64 (1000 + n)] w fun e w' => e = .returned (.string (fgSeq n)) ∧ Below w.heap.size w w' := by
  have H := fun w => Lib.hid (esc_fg n hn w)
  go_enter Tryd.func8, Tryd.ntmps8
  go_wp2_with (go_at_call 22; refine (H _).out.mono ?_; rintro e w' ⟨rfl, hb⟩)
  go_ret
  exact ⟨rfl, hb⟩
theorem seq8_bg (n : Nat) (hn : n < 256) (w : World) :
    Calls Tryd.prog 8 #[.int .i64 (2000 + n)] w fun e w' => e = .returned (.string (bgSeq n)) ∧ Below w.heap.size w w' := by
  have H := fun w => Lib.hid (esc_bg n hn w)
  go_enter Tryd.func8, Tryd.ntmps8
  go_wp2_with (go_at_call 22; refine (H _).out.mono ?_; rintro e w' ⟨rfl, hb⟩)
  go_ret
  exact ⟨rfl, hb⟩

/-! ### spec.TxSequence -/
abbrev T (B : Nat) (w : World) : Prop := Lib.TabBelow Tryd.prog B w "internal/strconv.uint64pow10" .u64 Lib.pow10Tab
def itB (c : Int) : ByteArray := ⟨(Lib.itoa c).toArray⟩
def I64 (c : Int) : Prop := -9223372036854775808 ≤ c ∧ c ≤ 9223372036854775807
theorem itB_size (c : Int) (h : I64 c) : (itB c).size ≤ 21 := by
  show (Lib.itoa c).toArray.size ≤ 21
  rw [List.size_toArray]
  exact Lib.itoa_length_le c h.1 h.2
def stepB (k : Nat) (acc : ByteArray) (c : Int) : ByteArray := if 0 < k then (acc ++ ⟨#[59]⟩) ++ itB c else acc ++ itB c
def seqT : Nat → List Int → ByteArray → ByteArray
  | _, [], acc => acc
  | k, c :: l, acc => seqT (k + 1) l (stepB k acc c)
def seqB (l : List Int) : ByteArray := if l.length = 0 then ⟨#[]⟩ else seqT 0 l ⟨#[27, 91]⟩ ++ ⟨#[109]⟩
theorem stepB_size (k : Nat) (acc : ByteArray) (c : Int) (h : I64 c) : (stepB k acc c).size ≤ acc.size + 22 := by
  have := itB_size c h
  unfold stepB
  split
  · rw [ByteArray.size_append, ByteArray.size_append]
    show acc.size + 1 + _ ≤ _
    omega
  · rw [ByteArray.size_append]; omega

theorem itoa24 (c : Int) (h : I64 c) (w : World) (B : Nat) (ht : T B w) (hB : B ≤ w.heap.size) :
    Calls Tryd.prog 24 #[.int .i64 c] w fun e w' => e = .returned (.string (itB c)) ∧ Below w.heap.size w w' :=
  (Tryd.strconv_Itoa c h.1 h.2 w ht.here).mono fun e w' ⟨he, k, os, hw⟩ => ⟨he, by subst hw; exact Lib.below_grow _ w (Nat.le_refl _) k os⟩

set_option maxRecDepth 100000 in
set_option maxHeartbeats 4000000 in
theorem seq (A : Option Addr) (c : Nat) (l : List Int) (w : World) (B : Nat) (hB : B ≤ w.heap.size) (ht : T B w)
    (hr : Kd.C (Kd.int .i64) w A l.length l) (hc : l.length ≤ c) (hl : l.length ≤ 1000000) (hi : ∀ x ∈ l, I64 x) :
    Calls Tryd.prog 10 #[.slice A l.length c] w fun e w' => e = .returned (.string (seqB l)) ∧ Below w.heap.size w w' := by
  have R := Aside0.mk hr
  have HT := Aside0.mk ht
  have HI := Aside0.mk hi
  clear hr ht hi
  by_cases h0 : l.length = 0
  · have hs : seqB l = ⟨#[]⟩ := by unfold seqB; rw [if_pos h0]
    have HS := Aside0.mk hs
    clear hs
    rw [h0] at *
    go_enter Tryd.func10, Tryd.ntmps10
    go_wp2_with fail
    go_ret
    exact ⟨by rw [HS.out]; rfl, Below.refl _ _⟩
  · have hs : seqB l = seqT 0 l ⟨#[27, 91]⟩ ++ ⟨#[109]⟩ := by unfold seqB; rw [if_neg h0]
    have HS := Aside0.mk hs
    clear hs
    have hbe : ((l.length : Int) == 0) = false := by simpa using h0
    go_enter Tryd.func10, Tryd.ntmps10
    go_wp2_with fail
    go_loopw [3, 4, 5, 11] (fun s _ _ i wr => ∃ (k : Nat) (acc : ByteArray), k ≤ l.length ∧ i = .int .i64 k ∧ s = .string acc ∧ acc.size ≤ 2 + 22 * k ∧ Aside0 (seqT k (l.drop k) acc = seqT 0 l ⟨#[27, 91]⟩) ∧ Aside0 (Below w.heap.size w wr)) (fun _ _ _ i _ => l.length - (intOf i).toNat)
    case atStart => exact ⟨0, ⟨#[27, 91]⟩, Nat.zero_le _, rfl, rfl, Nat.le_refl _, ⟨rfl⟩, ⟨Below.refl _ _⟩⟩
    case round =>
      obtain ⟨k, acc, hk, rfl, rfl, hsz, HQ, HB⟩ := hrel
      by_cases hlt : k < l.length
      · obtain ⟨ad, rfl, hx⟩ := Kd.at_int (Kd.C_below R.out HB.out) (k : Int) (by omega) (by omega)
        rw [Int.toNat_natCast] at hx
        obtain ⟨x, hxx⟩ : ∃ x, x = rd l k := ⟨_, rfl⟩
        have hxl : l[k] = x := by rw [hxx, rd_at l k hlt]
        have hix : I64 x := HI.out x (by rw [← hxl]; exact List.getElem_mem hlt)
        rw [← hxx] at hx
        have HQ2 : Aside0 (seqT (k + 1) (l.drop (k + 1)) (stepB k acc x) = seqT 0 l ⟨#[27, 91]⟩) := ⟨by
          have h := HQ.out
          rw [List.drop_eq_getElem_cons hlt, seqT, hxl] at h
          exact h⟩
        have hst := stepB_size k acc x hix
        have C := Aside0.mk (itoa24 x hix wr B (HT.out.on (HB.out.mono hB)) (by have := HB.out.size; omega))
        have hit := itB_size x hix
        obtain ⟨D, hD⟩ : ∃ D, D = itB x := ⟨_, rfl⟩
        have hX := Aside0.mk hxl
        clear hxl hix hxx
        unfold stepB at HQ2 hst
        rw [← hD] at C HQ2 hst hit
        clear hD
        by_cases hk0 : 0 < k
        · simp only [if_pos hk0] at HQ2 hst
          have HST := Aside0.mk hst
          clear hst
          have h1 : acc.size + 1 ≤ 9223372036854775807 := by omega
          have h2 : acc.size + 1 + D.size ≤ 9223372036854775807 := by omega
          go_wp2_with (go_at_call 24; refine C.out.mono ?_; rintro e w2 ⟨rfl, hb⟩)
          go_roundw
          case rel => exact ⟨k + 1, _, by omega, by go_num, rfl, by have := HST.out; omega, HQ2, ⟨HB.out.trans (hb.mono HB.out.size)⟩⟩
          case measure => simp [intOf]; omega
        · simp only [if_neg hk0] at HQ2 hst
          have HST := Aside0.mk hst
          clear hst
          have h2 : acc.size + D.size ≤ 9223372036854775807 := by omega
          go_wp2_with (go_at_call 24; refine C.out.mono ?_; rintro e w2 ⟨rfl, hb⟩)
          go_roundw
          case rel => exact ⟨k + 1, _, by omega, by go_num, rfl, by have := HST.out; omega, HQ2, ⟨HB.out.trans (hb.mono HB.out.size)⟩⟩
          case measure => simp [intOf]; omega
      · obtain rfl : k = l.length := by omega
        have HQ2 : Aside0 (acc = seqT 0 l ⟨#[27, 91]⟩) := ⟨by
          have h := HQ.out
          rw [List.drop_eq_nil_of_le (Nat.le_refl _)] at h
          exact h⟩
        have h1 : acc.size + 1 ≤ 9223372036854775807 := by omega
        go_wp2_with fail
        go_ret
        exact ⟨by rw [HS.out, ← HQ2.out]; rfl, HB.out⟩
end Go.Proofs.YtkfkhafmgndgaaaRRDoor.Color
