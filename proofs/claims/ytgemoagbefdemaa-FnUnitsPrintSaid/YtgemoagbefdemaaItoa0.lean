/-
  Proved: what lightstrconv.FormatUint, FormatInt and Itoa return at base 10 for numbers that are not negative: the decimal digits. Conditions: those.
-/
import Derived.Test.YtgemoagbefdemaaWWords
import Derived.Test.YtgemoagbefdemaaProg
import Derived.WalkKit
import Derived.RowKit
import Derived.Below
import Derived.Laws.BytesArg
import Derived.Lib.Hide
import Derived.Lib.ItoaNum
import Derived.Lib.ItoaLen
namespace Go.Proofs.Ytgemoagbefdemaa.Itoa0
open Go.RowKit Go.Proofs.YtgemoagbefdemaaW.PrintWords
set_option linter.unusedVariables false


theorem nd_le : ∀ (k u : Nat), 1 ≤ k → u < 10 ^ k → Lib.nDigits u ≤ k
  | 0, u, h, _ => by omega
  | k + 1, u, _, h => by
    by_cases hu : u < 10
    · rw [Lib.nDigits_small hu]; omega
    · rw [Lib.nDigits_big hu]
      have hk : 1 ≤ k := by
        rcases k with _ | k
        · simp at h; omega
        · omega
      have := nd_le k (u / 10) hk (by rw [Nat.pow_succ] at h; omega)
      omega
theorem nd_lt (k u : Nat) (h : 0 < u / 10 ^ k) : k < Lib.nDigits u := by
  have h1 : 10 ^ k ≤ u := by
    rcases Nat.lt_or_ge u (10 ^ k) with h' | h'
    · rw [Nat.div_eq_of_lt h'] at h; omega
    · exact h'
  exact (Nat.pow_lt_pow_iff_right (by omega : 1 < 10)).1 (Nat.lt_of_le_of_lt h1 (Lib.lt_pow_nDigits u))

def dg (n t : Nat) : Int := 48 + ((n / 10 ^ t % 10 : Nat) : Int)

theorem digs (n : Nat) : strOfNums ((List.range (Lib.nDigits n)).map fun t => dg n (Lib.nDigits n - 1 - t)) = ⟨(Lib.decDigits n).toArray⟩ := by
  rw [Lib.decDigits_eq]
  unfold strOfNums
  simp only [List.map_map]
  congr 2
theorem digit_fin : ∀ d : Fin 10, ((({ data := #[48, 49, 50, 51, 52, 53, 54, 55, 56, 57, 97, 98, 99, 100, 101, 102, 103, 104, 105, 106, 107, 108, 109, 110, 111, 112, 113, 114, 115, 116, 117, 118, 119, 120, 121, 122] } : ByteArray)[d.val]'(Nat.lt_trans d.isLt (by decide))).toNat) = 48 + d.val := by decide +kernel
structure Dig (w0 w : World) (n k : Nat) : Prop where
  below : Below w0.heap.size w0 w
  row : ∃ X : Array Value, w.heap[w0.heap.size]? = some (.cells X 55 (0, 0)) ∧ X.size = 64 ∧ ∀ t, t < k → X[63 - t]? = some (.int .u8 (dg n t))

set_option maxRecDepth 100000 in
set_option maxHeartbeats 4000000 in
theorem fmtUint (n : Nat) (hn : n < 18446744073709551616) (w : World) :
    Calls Try.prog 17 #[.int .u64 n, .int .i64 10] w fun e w' => e = .returned (.string ⟨(Lib.decDigits n).toArray⟩) ∧ Below w.heap.size w w' := by
  have hnd : Lib.nDigits n ≤ 20 := nd_le 20 n (by omega) (by omega)
  have hnp : 1 ≤ Lib.nDigits n := Lib.nDigits_pos n
  go_enter Try.func17, Try.ntmps17
  go_wp2_with fail
  go_loopw [0, 6] (fun nv iv wr => ∃ k : Nat, k ≤ Lib.nDigits n ∧ nv = .int .u64 ((n / 10 ^ k : Nat) : Int) ∧ iv = .int .i64 ((64 - k : Nat) : Int) ∧ Aside0 (Dig w wr n k)) (fun _ iv _ => (intOf iv).toNat)
  case atStart =>
    refine ⟨0, by omega, by simp, rfl, ?_⟩
    refine ⟨(Below.refl _ _).alloc (Nat.le_refl _) _, _, heap_alloc_new _ _, ?_, fun t ht => by omega⟩
    rfl
  case round =>
    obtain ⟨k, hkn, rfl, rfl, HD⟩ := hrel
    have hk : k ≤ 20 := Nat.le_trans hkn hnd
    obtain ⟨m, hm⟩ : ∃ m, m = n / 10 ^ k := ⟨_, rfl⟩
    obtain ⟨j, hj⟩ : ∃ j, j = 64 - k := ⟨_, rfl⟩
    rw [← hm, ← hj]
    have hm64 : m < 18446744073709551616 := by rw [hm]; exact Nat.lt_of_le_of_lt (Nat.div_le_self _ _) hn
    have hj64 : j ≤ 64 := by omega
    have HM := Aside0.mk hm
    have HJ := Aside0.mk hj
    clear hm hj
    obtain ⟨X, hX, hXs, hXd⟩ := HD.out.row
    have hlt : j - 1 < X.size := by omega
    have hc0 : wr.cell? ⟨w.heap.size, j - 1, none⟩ = some X[j - 1] := by
      rw [cell_of_row wr w.heap.size (j - 1) X 55 (0, 0) hX, Array.getElem?_eq_getElem hlt]
    have hfr : wr.frozen? ⟨w.heap.size, j - 1, none⟩ = false := by simp [World.frozen?, hX]
    have HX := Aside0.mk hX
    have HXD := Aside0.mk hXd
    clear hX hXd
    have next : ∀ c : Int, c = dg n k → 1 ≤ j → (m : Int) / 10 = ((m / 10 : Nat) : Int) → k < Lib.nDigits n → ∃ k, k ≤ Lib.nDigits n ∧ Value.int .u64 ((m : Int) / 10) = .int .u64 ((n / 10 ^ k : Nat) : Int) ∧ Value.int .i64 ((j : Int) - 1) = .int .i64 ((64 - k : Nat) : Int) ∧ Aside0 (Dig w (wr.setCell ⟨w.heap.size, j - 1, none⟩ (.int .u8 c)) n k) := by
      intro c hc hj1 hd hk2
      have hjj := HJ.out
      refine ⟨k + 1, by omega, ?_, ?_, ⟨?_⟩⟩
      · rw [hd, HM.out, Nat.div_div_eq_div_mul, Nat.pow_succ]
      · congr 1; omega
      · refine ⟨HD.out.below.setCell (p := ⟨w.heap.size, j - 1, none⟩) (Nat.le_refl _) _, X.set! (j - 1) (.int .u8 c), ?_, by simp [hXs], fun t ht => ?_⟩
        · simp [World.setCell, Array.getElem?_modify, HX.out]
        · by_cases htk : t = k
          · subst htk
            rw [show 63 - t = j - 1 by omega, hc]
            simp [hlt]
          · have hne : j - 1 ≠ 63 - t := by omega
            simp only [Array.set!, Array.getElem?_setIfInBounds_ne hne]
            exact HXD.out t (by omega)
    have NEXT := Aside0.mk next
    clear next
    by_cases hc : k = 0
    · have hjj : j = 64 := by have := HJ.out; omega
      subst hjj
      go_wp2_with fail
      go_roundw
      case rel =>
        refine NEXT.out _ ?_ (by omega) (by omega) (by omega)
        refine (congrArg Int.ofNat (digit_fin ⟨m % 10, Nat.mod_lt _ (by omega)⟩)).trans ?_
        show ((48 + m % 10 : Nat) : Int) = dg n k
        rw [dg, ← HM.out]; omega
      case measure => simp [intOf]
    · by_cases hp : 0 < m
      · have hj2 : j < 64 := by have := HJ.out; omega
        have hj3 : 0 < j := by have := HJ.out; omega
        go_wp2_with fail
        go_roundw
        case rel =>
          refine NEXT.out _ ?_ (by omega) (by omega) (nd_lt k n (by rw [← HM.out]; exact hp))
          refine (congrArg Int.ofNat (digit_fin ⟨m % 10, Nat.mod_lt _ (by omega)⟩)).trans ?_
          show ((48 + m % 10 : Nat) : Int) = dg n k
          rw [dg, ← HM.out]; omega
        case measure => simp [intOf]; omega
      · have hm0 : m = 0 := by omega
        subst hm0
        have hj2 : j < 64 := by have := HJ.out; omega
        have hkk : k = Lib.nDigits n := by
          have h0 := HM.out
          have h1 : n < 10 ^ k := by
            rcases Nat.lt_or_ge n (10 ^ k) with h | h
            · exact h
            · have := Nat.div_pos h (Nat.pow_pos (by omega : 0 < 10)); omega
          have := nd_le k n (by omega) h1
          omega
        have hsl : ∀ W, (Instr.sliceAt 55 (.pointer (some ⟨w.heap.size, 0, none⟩)) (some (.int .i64 (j : Int))) none none).run Try.prog W = .ok (.slice (some ⟨w.heap.size, j, none⟩) (64 - j) (64 - j)) W := fun W => by
          rw [run_sliceAt_array_l W 55 ⟨w.heap.size, 0, none⟩ (by kernel_rfl) .i64 (j : Int) (by omega) (by rw [show Try.prog.arrayLen 55 = 64 by kernel_rfl]; omega)]
          go_simp
          intro h64; omega
        have hcv := run_convert_bytes_arg (P := Try.prog) wr 50 5 Try.underlying50 Try.underlying5 w.heap.size j (64 - j) (64 - j) ((List.range k).map fun t => dg n (k - 1 - t)) (by simp; have := HJ.out; omega) (fun i hi => by
          have hjj := HJ.out
          rw [cell_of_row wr w.heap.size (j + i) X 55 (0, 0) HX.out, show j + i = 63 - (k - 1 - i) by omega, HXD.out _ (by omega)]
          simp [List.getD, show i < k by omega]) 9 Try.underlying9
        rw [hkk, digs] at hcv
        go_wp2_with fail
        go_ret
        exact ⟨rfl, HD.out.below⟩
end Go.Proofs.Ytgemoagbefdemaa.Itoa0
