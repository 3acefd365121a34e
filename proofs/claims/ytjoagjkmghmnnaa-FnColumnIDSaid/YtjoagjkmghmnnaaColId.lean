/-
  Proved: for every int n with 0 <= n < 2^62 impl.ColumnID(n) and spec.Letter(n) return the same text, a plain function of n. Conditions: those bounds.
-/
import Derived.Test.YtjoagjkmghmnnaaRows
import Derived.WalkKit
import Derived.ProofKit
import Derived.OpenShut
import Derived.Laws.BytesArg
import Derived.Lib.Hide
namespace Go.Proofs.Ytjoagjkmghmnnaa.ColId
open Go.ChangeShapes Go.WideShapes Go.ChangeAt Go.RowKit
set_option linter.unusedVariables false

def letF : Nat → Int → ByteArray
  | 0, n => Utf8.encode (65 + n % 26)
  | k + 1, n => if 0 < n / 26 then letF k (n / 26 - 1) ++ Utf8.encode (65 + n % 26) else Utf8.encode (65 + n % 26)

theorem enc_small (c : Int) (h0 : 65 ≤ c) (h1 : c < 91) : Utf8.encode c = ⟨#[UInt8.ofNat c.toNat]⟩ := by
  have hv : Utf8.valid c = true := by
    unfold Utf8.valid
    simp
    omega
  unfold Utf8.encode
  have h2 : c.toNat < 128 := by omega
  simp [hv, h2]
theorem enc_size (n : Int) : (Utf8.encode (65 + n % 26)).size = 1 := by
  rw [enc_small _ (by omega) (by omega)]; rfl
theorem enc_nums (n : Int) : strOfNums [65 + n % 26] = Utf8.encode (65 + n % 26) := by
  rw [enc_small _ (by omega) (by omega)]; rfl
theorem letF_size (k : Nat) : ∀ n, (letF k n).size ≤ k + 1 := by
  induction k with
  | zero => intro n; unfold letF; rw [enc_size]; omega
  | succ k ih =>
    intro n
    unfold letF
    split
    · rw [ByteArray.size_append, enc_size]; have := ih (n / 26 - 1); omega
    · rw [enc_size]; omega
theorem letF_last (k : Nat) (n : Int) (h : ¬ 0 < n / 26) : letF k n = Utf8.encode (65 + n % 26) := by
  cases k
  · rfl
  · unfold letF; rw [if_neg h]
theorem letF_more (k : Nat) (n : Int) (h : 0 < n / 26) : letF (k + 1) n = letF k (n / 26 - 1) ++ Utf8.encode (65 + n % 26) := by
  rw [letF, if_pos h]

theorem cell_one (w : World) (x : Int) (i : Nat) (hi : i < 1) : (w.alloc (Obj.cells #[Value.int IntKind.u8 x] 5)).cell? ⟨w.heap.size, 0 + i, none⟩ = some (.int .u8 ([x].getD i 0)) := by
  obtain rfl : i = 0 := by omega
  go_simp
  try rfl
def top : Nat → Int
  | 0 => 26
  | k + 1 => 26 * top k
theorem top_pos (k : Nat) : 0 < top k := by
  induction k with
  | zero => decide
  | succ k ih => unfold top; omega

set_option maxRecDepth 100000 in
set_option maxHeartbeats 400000 in
theorem idc (k : Nat) : ∀ (n : Int) (w : World), k ≤ 20 → 0 ≤ n → n < 9223372036854775807 → n < top k →
    Calls Try.prog 43 #[.int .i64 n] w fun e w' => e = .returned (.string (letF k n)) ∧ w' = w := by
  induction k with
  | zero =>
    intro n w hk h0 hb h1
    have h2 : ¬ 0 < n / 26 := by unfold top at h1; omega
    clear h1
    go_enter Try.func43, Try.ntmps43
    go_wp2_with fail
    go_ret
    exact ⟨by rw [letF_last _ _ (by omega)]; rfl, rfl⟩
  | succ k ih =>
    intro n w hk h0 hb h1
    have h1' : n / 26 - 1 < top k := by unfold top at h1; omega
    by_cases h2 : 0 < n / 26
    · have hs := letF_size k (n / 26 - 1)
      have he := enc_size n
      have hlen : (letF k (n / 26 - 1)).size + (Utf8.encode (65 + n % 26)).size ≤ 9223372036854775807 := by omega
      have hadd := fun w : World => run_string_add_sum (P := Try.prog) w _ _ hlen
      have hm := letF_more k n h2
      have HM := Lib.hid hm
      clear hm hs he hlen h1
      have hd : decide (0 < n / 26) = true := by simpa using h2
      have H1 := Lib.hid h1'
      clear h1'
      go_enter Try.func43, Try.ntmps43
      go_wp2_with (go_at_call 43; refine (ih (n / 26 - 1) _ (by omega) (by omega) (by omega) H1.out).mono ?_; rintro e w' ⟨rfl, rfl⟩)
      go_ret
      exact ⟨by rw [HM.out]; rfl, rfl⟩
    · clear h1 h1'
      go_enter Try.func43, Try.ntmps43
      go_wp2_with fail
      go_ret
      exact ⟨by rw [letF_last _ _ (by omega)]; rfl, rfl⟩

set_option maxRecDepth 100000 in
set_option maxHeartbeats 400000 in
theorem spc (k : Nat) : ∀ (n : Int) (w : World), k ≤ 20 → 0 ≤ n → n < 9223372036854775807 → n < top k →
    Calls Try.prog 16 #[.int .i64 n] w fun e w' => e = .returned (.string (letF k n)) ∧ Grown w w' := by
  induction k with
  | zero =>
    intro n w hk h0 hb h1
    have h2 : n < 26 := by unfold top at h1; omega
    clear h1
    have hc := run_convert_bytes_arg (P := Try.prog) (w.alloc (Obj.cells #[Value.int IntKind.u8 (65 + n % 26)] 5)) 46 5 Try.underlying46 Try.underlying5 w.heap.size 0 1 1 [65 + n % 26] rfl (cell_one w _) 9 Try.underlying9
    rw [enc_nums] at hc
    go_enter Try.func16, Try.ntmps16
    go_wp2_with fail
    go_ret
    exact ⟨by rw [letF_last _ _ (by omega)]; rfl, (Grown.refl _).alloc _ _⟩
  | succ k ih =>
    intro n w hk h0 hb h1
    have h1' : n / 26 - 1 < top k := by unfold top at h1; omega
    have hc := run_convert_bytes_arg (P := Try.prog) (w.alloc (Obj.cells #[Value.int IntKind.u8 (65 + n % 26)] 5)) 46 5 Try.underlying46 Try.underlying5 w.heap.size 0 1 1 [65 + n % 26] rfl (cell_one w _) 9 Try.underlying9
    rw [enc_nums] at hc
    by_cases h2 : n < 26
    · clear h1 h1'
      go_enter Try.func16, Try.ntmps16
      go_wp2_with fail
      go_ret
      exact ⟨by rw [letF_last _ _ (by omega)]; rfl, (Grown.refl _).alloc _ _⟩
    · have hs := letF_size k (n / 26 - 1)
      have he := enc_size n
      have hlen : (letF k (n / 26 - 1)).size + (Utf8.encode (65 + n % 26)).size ≤ 9223372036854775807 := by omega
      have hadd := fun w : World => run_string_add_sum (P := Try.prog) w _ _ hlen
      have hm := letF_more k n (by omega)
      have HM := Lib.hid hm
      clear hm hs he hlen h1
      have H1 := Lib.hid h1'
      clear h1'
      go_enter Try.func16, Try.ntmps16
      go_wp2_with (go_at_call 16; refine (ih (n / 26 - 1) _ (by omega) (by omega) (by omega) H1.out).mono ?_; rintro e w' ⟨rfl, hg⟩)
      go_ret
      exact ⟨by rw [HM.out]; rfl, ⟨World.keptBut_trans ((Grown.refl w).alloc _ _).1 hg.1, fun x => (hg.2.1 x).trans (((Grown.refl w).alloc _ _).2.1 x), Nat.le_trans ((Grown.refl w).alloc _ _).2.2 hg.2.2⟩⟩
end Go.Proofs.Ytjoagjkmghmnnaa.ColId
