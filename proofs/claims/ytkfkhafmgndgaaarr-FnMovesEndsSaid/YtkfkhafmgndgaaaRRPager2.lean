/-
  Proved: what the methods of table.pager return, and where the pager is then. Conditions: the pager lies in a block of its own; it is at one of its pages.
-/
import Derived.Test.YtkfkhafmgndgaaaRRPager
import Derived.Test.YtkfkhafmgndgaaaRRCommon
namespace Go.Proofs.YtkfkhafmgndgaaaRR.Pager
open Go.RowKit Go.Proofs.YtkfkhafmgndgaaaRRW.PrintWords Go.Proofs.YtkfkhafmgndgaaaRR.Common
set_option linter.unusedVariables false

/-- where a move leads -/
def pgAt (n : Nat) (k : Nat) (kind p : Int) : Nat :=
  if kind = 0 then (if k + 1 < n then k + 1 else k)
  else if kind = 1 then k - 1
  else if kind = 2 then (if p < 1 then 0 else if (n : Int) < p then n - 1 else (p - 1).toNat)
  else k
theorem pgAt_lt (n k : Nat) (hk : k < n) (kind p : Int) : pgAt n k kind p < n := by
  unfold pgAt
  split
  · split <;> omega
  · split
    · omega
    · split
      · split
        · omega
        · split <;> omega
      · omega
/-- what a method leaves: the pager is at k' -/
def PgPost (w : World) (g n c k' : Nat) (ad : Addr) (v : Value) (e : Ending) (w' : World) : Prop :=
  e = .returned v ∧ PgB w' g k' (some ad) n c ∧ w.grownBy w' (some g)
theorem only_draw (w : World) (g m : Nat) : w.grownBy (w.drewN m) (some g) := ⟨rfl, rfl, rfl, Nat.le_refl _, fun _ _ _ => rfl⟩
theorem only_set (w : World) (g m : Nat) (v : Value) : w.grownBy ((w.setCell ⟨g, 0, none⟩ v).drewN m) (some g) :=
  ⟨rfl, rfl, rfl, by show w.heap.size ≤ (w.setCell ⟨g, 0, none⟩ v).heap.size; simp, fun i _ hne => Below.heap_setCell w _ v i (fun e => hne (by rw [e]))⟩
structure PgIn (w : World) (g n c k : Nat) (ad : Addr) (pages : List ByteArray) : Prop where
  hn : n ≤ 9223372036854775806
  had : ad.block ≠ g
  hk : k < n
  hb : PgB w g k (some ad) n c
  hr : Kd.C Kd.string w (some ad) n pages
def pg (pages : List ByteArray) (k : Nat) : ByteArray := rdOf ByteArray.empty pages (k : Int)
section
variable {g n c : Nat} {ad : Addr} {pages : List ByteArray} {w : World} {k : Nat}
theorem PgIn.page (H : PgIn w g n c k ad pages) (j : Nat) (hj : j < n) : w.cell? (ad.add j) = some (.string (pg pages j)) := by
  obtain ⟨ad', e, hx⟩ := Kd.at_string H.hr (j : Int) (by omega) (by omega)
  cases e
  rwa [Int.toNat_natCast] at hx
theorem add_block (ad : Addr) (j : Nat) : (ad.add j).block = ad.block := by unfold Addr.add; split <;> rfl
theorem PgIn.far (H : PgIn w g n c k ad pages) (v : Value) (j : Nat) (hj : j < n) (m : Nat) : ((w.drewN m).setCell ⟨g, 0, none⟩ v).cell? (ad.add j) = some (.string (pg pages j)) :=
  (set_far (by rw [add_block]; exact H.had) v m).trans (H.page j hj)
theorem add_lit (ad : Addr) (j : Nat) : ad.add (j + 1) = ⟨ad.block, ad.off + (j + 1), none⟩ := by
  unfold Addr.add
  simp
theorem add_zero' (ad : Addr) : ad.add 0 = ad := by
  unfold Addr.add
  simp
theorem post_stay (H : PgIn w g n c k ad pages) {e : Ending} {w' : World} {v : Value} (he : e = .returned v) {m : Nat} (hw : w' = w.drewN m) : PgPost w g n c k ad v e w' := by
  subst hw
  exact ⟨he, H.hb.drewN m, only_draw w g m⟩
theorem post_set (H : PgIn w g n c k ad pages) {e : Ending} {w' : World} {v : Value} (he : e = .returned v) {m k' : Nat} {x : Int} (hx : x = (k' : Int)) (hw : w' = (w.setCell ⟨g, 0, none⟩ (.int .i64 x)).drewN m) : PgPost w g n c k' ad v e w' := by
  subst hx; subst hw
  exact ⟨he, (H.hb.set_ k').drewN m, only_set w g m _⟩
theorem next_any (H : PgIn w g n c k ad pages) : Calls Try.prog 84 #[.pointer (some ⟨g, 0, none⟩)] w fun e w' => PgPost w g n c (pgAt n k 0 0) ad (.string (pg pages (pgAt n k 0 0))) e w' := by
  obtain ⟨h0, h1, hf⟩ := H.hb.cell
  by_cases h : k + 1 < n
  · have e : pgAt n k 0 0 = k + 1 := by unfold pgAt; rw [if_pos rfl, if_pos h]
    rw [e]
    refine (next_up g n c ad H.hn w hf h1 k h0 h (pg pages (k + 1)) (by rw [← add_lit]; exact H.page _ h) (fun m => by rw [← add_lit]; exact H.far _ _ h m)).mono fun e w' ⟨he, m, hw⟩ => ?_
    exact post_set H he (by omega) hw
  · have e : pgAt n k 0 0 = k := by unfold pgAt; rw [if_pos rfl, if_neg h]
    rw [e]
    refine (next_stay g n c ad H.hn w hf h1 k h0 (by have := H.hk; omega) (pg pages k) (H.page _ H.hk)).mono fun e w' ⟨he, m, hw⟩ => ?_
    exact post_stay H he hw
theorem prev_any (H : PgIn w g n c k ad pages) : Calls Try.prog 85 #[.pointer (some ⟨g, 0, none⟩)] w fun e w' => PgPost w g n c (pgAt n k 1 0) ad (.string (pg pages (pgAt n k 1 0))) e w' := by
  obtain ⟨h0, h1, hf⟩ := H.hb.cell
  have hk := H.hk
  have e : pgAt n k 1 0 = k - 1 := by unfold pgAt; rw [if_neg (by decide), if_pos rfl]
  rw [e]
  by_cases h : 0 < k
  · refine (prev_down g n c ad H.hn w hf h1 k h0 hk h (pg pages (k - 1)) (H.far _ _ (by omega) 0)).mono fun e w' ⟨he, m, hw⟩ => ?_
    exact post_set H he (by omega) hw
  · obtain rfl : k = 0 := by omega
    refine (prev_stay g n c ad H.hn w hf h1 h0 hk (pg pages 0) (by have := H.page 0 hk; rwa [add_zero'] at this)).mono fun e w' ⟨he, m, hw⟩ => ?_
    exact post_stay H he hw
theorem goto_any (H : PgIn w g n c k ad pages) (p : Int) (hp : -9223372036854775808 ≤ p ∧ p ≤ 9223372036854775807) : Calls Try.prog 82 #[.pointer (some ⟨g, 0, none⟩), .int .i64 p] w fun e w' => PgPost w g n c (pgAt n k 2 p) ad (.string (pg pages (pgAt n k 2 p))) e w' := by
  obtain ⟨h0, h1, hf⟩ := H.hb.cell
  have hk := H.hk
  have e : pgAt n k 2 p = (if p < 1 then 0 else if (n : Int) < p then n - 1 else (p - 1).toNat) := by unfold pgAt; rw [if_neg (by decide), if_neg (by decide), if_pos rfl]
  rw [e]
  by_cases c1 : p < 1
  · rw [if_pos c1]
    refine (goto_low g n c ad H.hn w hf h1 k h0 (by omega) p hp c1 (pg pages 0) (by have := H.far (.int .i64 0) 0 (by omega) 0; rwa [add_zero'] at this)).mono fun e w' ⟨he, m, hw⟩ => ?_
    exact post_set H he (by omega) hw
  · rw [if_neg c1]
    by_cases c2 : (n : Int) < p
    · rw [if_pos c2]
      refine (goto_high g n c ad H.hn w hf h1 k h0 (by omega) p hp c2 (pg pages (n - 1)) (H.far _ _ (by omega) 0)).mono fun e w' ⟨he, m, hw⟩ => ?_
      exact post_set H he (by omega) hw
    · rw [if_neg c2]
      obtain ⟨j, rfl⟩ : ∃ j : Nat, p = (j : Int) + 1 := ⟨(p - 1).toNat, by omega⟩
      have ej : ((j : Int) + 1 - 1).toNat = j := by omega
      rw [ej]
      refine (goto_mid g n c ad H.hn w hf h1 k h0 (by omega) j (by omega) (pg pages j) (H.far _ _ (by omega) 0)).mono fun e w' ⟨he, m, hw⟩ => ?_
      exact post_set H he rfl hw
theorem render_any' (H : PgIn w g n c k ad pages) : Calls Try.prog 86 #[.pointer (some ⟨g, 0, none⟩)] w fun e w' => PgPost w g n c k ad (.string (pg pages k)) e w' := by
  obtain ⟨h0, h1, hf⟩ := H.hb.cell
  refine (render_any g n c ad H.hn w hf h1 k h0 H.hk (pg pages k) (H.page _ H.hk)).mono fun e w' ⟨he, m, hw⟩ => ?_
  exact post_stay H he hw
theorem loc_any' (H : PgIn w g n c k ad pages) : Calls Try.prog 83 #[.pointer (some ⟨g, 0, none⟩)] w fun e w' => PgPost w g n c k ad (.int .i64 ((k : Int) + 1)) e w' := by
  obtain ⟨h0, h1, hf⟩ := H.hb.cell
  refine (loc_any g n c ad H.hn w hf h1 k h0 H.hk).mono fun e w' ⟨he, hw⟩ => ?_
  exact post_stay (m := 0) H he hw
end
end Go.Proofs.YtkfkhafmgndgaaaRR.Pager
