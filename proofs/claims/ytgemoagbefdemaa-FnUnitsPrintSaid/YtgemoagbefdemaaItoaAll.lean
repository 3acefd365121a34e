/-
  Proved: what lightstrconv.FormatInt (base 10) and Itoa return for every int: the decimal digits, a minus ahead where it is negative. Conditions: the number is an int.
-/
import Derived.Test.YtgemoagbefdemaaItoa0
import Derived.Test.YtgemoagbefdemaaCommon
import Derived.Deep.LoopGhost
namespace Go.Proofs.Ytgemoagbefdemaa.ItoaAll
open Go.RowKit Go.Proofs.YtgemoagbefdemaaW.PrintWords Go.Proofs.Ytgemoagbefdemaa.Common
set_option linter.unusedVariables false

def itoaL (n : Int) : List UInt8 := if n < 0 then 45 :: Lib.decDigits n.natAbs else Lib.decDigits n.natAbs
theorem itoaL_len (n : Int) (h0 : -9223372036854775808 ≤ n) (h1 : n ≤ 9223372036854775807) : (itoaL n).length ≤ 21 := by
  have h : n.natAbs < 18446744073709551616 := by omega
  have := Itoa0.nd_le 20 n.natAbs (by omega) (by omega)
  unfold itoaL
  split
  · rw [List.length_cons, Lib.decDigits_length]; omega
  · rw [Lib.decDigits_length]; omega
set_option maxRecDepth 100000 in
theorem fmtInt (n : Int) (h0 : -9223372036854775808 ≤ n) (h1 : n ≤ 9223372036854775807) (w : World) :
    Calls Try.prog 13 #[.int .i64 n, .int .i64 10] w fun e w' => e = .returned (.string (ofL (itoaL n))) ∧ Below w.heap.size w w' := by
  by_cases hn : n < 0
  · obtain ⟨m, hm⟩ : ∃ m : Nat, m = n.natAbs := ⟨_, rfl⟩
    have H := fun w => Aside0.mk (Itoa0.fmtUint m (by omega) w)
    have e1 : IntKind.u64.wrap n = n + 18446744073709551616 := by simp [IntKind.wrap, IntKind.bits, IntKind.signed]; omega
    have e2 : IntKind.u64.wrap (-(n + 18446744073709551616)) = (m : Int) := by simp [IntKind.wrap, IntKind.bits, IntKind.signed]; omega
    have HE : Aside0 (itoaL n = 45 :: Lib.decDigits m) := ⟨by rw [itoaL, if_pos hn, hm]⟩
    have hlen : 1 + (Lib.decDigits m).length ≤ 9223372036854775807 := by rw [Lib.decDigits_length]; have := Itoa0.nd_le 20 m (by omega) (by omega); omega
    have HJ : Aside0 ((⟨#[45]⟩ : ByteArray) ++ ⟨(Lib.decDigits m).toArray⟩ = ofL (45 :: Lib.decDigits m)) := ⟨by apply WideShapes.bytes_inj; simp [ofL]⟩
    clear hm
    go_enter Try.func13, Try.ntmps13
    go_wp2_with (go_at_call 17; refine (H _).out.mono ?_; rintro e w' ⟨rfl, hb⟩)
    go_ret
    exact ⟨by rw [HE.out, ← HJ.out]; rfl, hb⟩
  · obtain ⟨m, rfl⟩ := Int.eq_ofNat_of_zero_le (show 0 ≤ n by omega)
    have H := fun w => Aside0.mk (Itoa0.fmtUint m (by omega) w)
    have HE : Aside0 (itoaL (m : Int) = Lib.decDigits m) := ⟨by rw [itoaL, if_neg (by omega)]; rfl⟩
    go_enter Try.func13, Try.ntmps13
    go_wp2_with (go_at_call 17; refine (H _).out.mono ?_; rintro e w' ⟨rfl, hb⟩)
    go_ret
    exact ⟨by rw [HE.out]; rfl, hb⟩
theorem itoa (n : Int) (h0 : -9223372036854775808 ≤ n) (h1 : n ≤ 9223372036854775807) (w : World) :
    Calls Try.prog 18 #[.int .i64 n] w fun e w' => e = .returned (.string (ofL (itoaL n))) ∧ Below w.heap.size w w' := by
  have H := fun w => Aside0.mk (fmtInt n h0 h1 w)
  go_enter Try.func18, Try.ntmps18
  go_wp2_with (go_at_call 13; refine (H _).out.mono ?_; rintro e w' ⟨rfl, hb⟩)
  go_ret
  exact ⟨rfl, hb⟩
end Go.Proofs.Ytgemoagbefdemaa.ItoaAll
