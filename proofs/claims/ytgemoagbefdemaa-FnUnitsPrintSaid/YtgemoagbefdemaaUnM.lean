/-
  Proved: what progress.Units.Sprint and impl.UnitsPrint return. Conditions: as told.
-/
import Derived.Test.YtgemoagbefdemaaUnL
namespace Go.Proofs.Ytgemoagbefdemaa.UnM
open Go.RowKit Go.Proofs.YtgemoagbefdemaaW.PrintWords Go.Proofs.Ytgemoagbefdemaa.Common Go.Proofs.Ytgemoagbefdemaa.UnK Go.Proofs.Ytgemoagbefdemaa.UnL Go.Proofs.Ytgemoagbefdemaa.ItoaAll
set_option linter.unusedVariables false
set_option linter.unusedSimpArgs false
set_option maxRecDepth 1000000
theorem fgo_size (f : Int → ByteArray) (hf : ∀ k, (f k).size ≤ 10) (v : Int) (hv0 : -9223372036854775808 ≤ v) (hv1 : v ≤ 9223372036854775807) : ∀ (d i : Nat), d + i = 5 → (∀ p, i = p + 1 → v < sc.getD p 0) → (fgo f v (sc.drop i)).size ≤ 200 := by
  intro d
  induction d with
  | zero =>
    intro i hi _
    obtain rfl : i = 5 := by omega
    show (ofL (itoaL v) ++ f 0).size ≤ 200
    rw [ByteArray.size_append]
    have h1 : (ofL (itoaL v)).size ≤ 21 := by show (itoaL v).toArray.size ≤ 21; rw [List.size_toArray]; exact itoaL_len v hv0 hv1
    have := hf 0
    omega
  | succ d ih =>
    intro i hi hp
    rw [drop_at i (by omega), fgo]
    split
    · rename_i hle
      have hs := sc_range i (by omega)
      obtain ⟨n, rfl⟩ := Int.eq_ofNat_of_zero_le (show 0 ≤ v by omega)
      obtain ⟨e, fr, he, hfr, hw⟩ := wrd_sc n (by omega) i (by omega) hle hp
      rw [rt_of he hfr hw, ByteArray.size_append]
      have h1 := ft_size e fr he hfr
      have h2 := hf (sc.getD i 0)
      omega
    · rename_i hle
      exact ih (i + 1) (by omega) (fun p hp => by rw [show p = i by omega]; omega)
def num (k v : Int) : ByteArray := if k = 2 then fgo txB v sc else fgo txN v sc
theorem num_size (k v : Int) (hv0 : -9223372036854775808 ≤ v) (hv1 : v ≤ 9223372036854775807) : (num k v).size ≤ 200 := by
  unfold num
  split
  · exact fgo_size txB txB_size v hv0 hv1 5 0 rfl (fun p h => by omega)
  · exact fgo_size txN txN_size v hv0 hv1 5 0 rfl (fun p h => by omega)
def upr (k p : Int) (n : ByteArray) (v : Int) : ByteArray := if p = 1 then num k v ++ n else n ++ num k v
theorem eq_nilf (w : World) : (binOp .eql 26 .nilFunc .nilFunc).run Try.prog w = .ok (.bool true) w := by kernel_rfl
theorem eq_f7 (w : World) : (binOp .eql 26 (.func (.func 7) #[] #[]) .nilFunc).run Try.prog w = .ok (.bool false) w := by kernel_rfl
theorem eq_f8 (w : World) : (binOp .eql 26 (.func (.func 8) #[] #[]) .nilFunc).run Try.prog w = .ok (.bool false) w := by kernel_rfl
theorem num0 (v : Int) : num 0 v = fgo txN v sc := if_neg (by decide)
theorem num1 (v : Int) : num 1 v = fgo txN v sc := if_neg (by decide)
theorem num2 (v : Int) : num 2 v = fgo txB v sc := if_pos rfl
theorem after_box {w w2 : World} {X : Obj} (hb : Below (w.alloc X).heap.size (w.alloc X) w2) : w2.heap[w.heap.size]? = some X := (hb.block _ (by simp)).trans (heap_alloc_new w X)
set_option maxHeartbeats 4000000 in
theorem sprint_c (F : Value) (k p v : Int) (n : ByteArray) (hF : (k = 0 ∧ F = .nilFunc) ∨ (k = 1 ∧ F = .func (.func 7) #[] #[]) ∨ (k = 2 ∧ F = .func (.func 8) #[] #[])) (hp : p = 0 ∨ p = 1) (hv0 : -9223372036854775808 ≤ v) (hv1 : v ≤ 9223372036854775807) (hn : n.size ≤ 1000) (w : World) :
    Calls Try.prog 9 #[.agg #[F, .string n, .int .i64 p], .int .i64 v] w fun e w' => e = .returned (.string (upr k p n v)) ∧ Below w.heap.size w w' := by
  have HN := fun w => Aside0.mk (fmtN_c v hv0 hv1 w)
  have HB := fun w => Aside0.mk (fmtB_c v hv0 hv1 w)
  have hz := num_size k v hv0 hv1
  rcases hF with ⟨rfl, rfl⟩ | ⟨rfl, rfl⟩ | ⟨rfl, rfl⟩
  · have hnf := eq_nilf
    have hz3 : ¬ (9223372036854775807 < (num 0 v).size + n.size) := by omega
    have hz4 : ¬ (9223372036854775807 < n.size + (num 0 v).size) := by omega
    rw [num0 v] at hz hz3 hz4
    unfold upr
    rw [num0 v]
    obtain ⟨T, hT⟩ : ∃ T, T = fgo txN v sc := ⟨_, rfl⟩
    rw [← hT] at hz hz3 hz4 ⊢
    have HN2 : ∀ w : World, Aside0 (Calls Try.prog 7 #[.int .i64 v] w fun e w' => e = .returned (.string T) ∧ Below w.heap.size w w') := by rw [hT]; exact HN
    clear hT HN HB
    rcases hp with rfl | rfl
    all_goals (
      first | rw [if_neg (by decide : ¬ (0 : Int) = 1)] | rw [if_pos rfl]
      go_enter Try.func9, Try.ntmps9
      go_wp2_with (go_at_call 7; refine (HN2 _).out.mono ?_; rintro e w2 ⟨rfl, hb2⟩; have hx2 := after_box hb2; have c1 := (blk_cell hx2 1).trans rfl; have c2 := (blk_cell hx2 2).trans rfl; have HB2 := Aside0.mk hb2; clear hx2 hb2)
      go_ret
      exact ⟨rfl, (below_alloc (Below.refl w.heap.size w) _).trans (HB2.out.mono (by simp))⟩)
  · have hnf := eq_f7
    have hz3 : ¬ (9223372036854775807 < (num 1 v).size + n.size) := by omega
    have hz4 : ¬ (9223372036854775807 < n.size + (num 1 v).size) := by omega
    rw [num1 v] at hz hz3 hz4
    unfold upr
    rw [num1 v]
    obtain ⟨T, hT⟩ : ∃ T, T = fgo txN v sc := ⟨_, rfl⟩
    rw [← hT] at hz hz3 hz4 ⊢
    have HN2 : ∀ w : World, Aside0 (Calls Try.prog 7 #[.int .i64 v] w fun e w' => e = .returned (.string T) ∧ Below w.heap.size w w') := by rw [hT]; exact HN
    clear hT HN HB
    rcases hp with rfl | rfl
    all_goals (
      first | rw [if_neg (by decide : ¬ (0 : Int) = 1)] | rw [if_pos rfl]
      go_enter Try.func9, Try.ntmps9
      go_wp2_with (go_at_call 7; refine (HN2 _).out.mono ?_; rintro e w2 ⟨rfl, hb2⟩; have hx2 := after_box hb2; have c1 := (blk_cell hx2 1).trans rfl; have c2 := (blk_cell hx2 2).trans rfl; have HB2 := Aside0.mk hb2; clear hx2 hb2)
      go_ret
      exact ⟨rfl, (below_alloc (Below.refl w.heap.size w) _).trans (HB2.out.mono (by simp))⟩)
  · have hnf := eq_f8
    have hz3 : ¬ (9223372036854775807 < (num 2 v).size + n.size) := by omega
    have hz4 : ¬ (9223372036854775807 < n.size + (num 2 v).size) := by omega
    rw [num2 v] at hz hz3 hz4
    unfold upr
    rw [num2 v]
    obtain ⟨T, hT⟩ : ∃ T, T = fgo txB v sc := ⟨_, rfl⟩
    rw [← hT] at hz hz3 hz4 ⊢
    have HN2 : ∀ w : World, Aside0 (Calls Try.prog 8 #[.int .i64 v] w fun e w' => e = .returned (.string T) ∧ Below w.heap.size w w') := by rw [hT]; exact HB
    clear hT HN HB
    rcases hp with rfl | rfl
    all_goals (
      first | rw [if_neg (by decide : ¬ (0 : Int) = 1)] | rw [if_pos rfl]
      go_enter Try.func9, Try.ntmps9
      go_wp2_with (go_at_call 8; refine (HN2 _).out.mono ?_; rintro e w2 ⟨rfl, hb2⟩; have hx2 := after_box hb2; have c1 := (blk_cell hx2 1).trans rfl; have c2 := (blk_cell hx2 2).trans rfl; have HB2 := Aside0.mk hb2; clear hx2 hb2)
      go_ret
      exact ⟨rfl, (below_alloc (Below.refl w.heap.size w) _).trans (HB2.out.mono (by simp))⟩)
end Go.Proofs.Ytgemoagbefdemaa.UnM
