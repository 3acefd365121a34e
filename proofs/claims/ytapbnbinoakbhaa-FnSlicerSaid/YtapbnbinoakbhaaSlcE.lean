/-
  Proved: Each of tw.Slicer[int] with the function that appends to a captured struct's first field. Conditions: rows as said.
-/
import Derived.Test.YtapbnbinoakbhaaSlcS
namespace Go.Proofs.Ytapbnbinoakbhaa.SlcE
open Go.RowKit Go.Proofs.YtapbnbinoakbhaaW.PrintWords Go.Proofs.Ytapbnbinoakbhaa.Common Go.Proofs.Ytapbnbinoakbhaa.SlcQ Go.Proofs.Ytapbnbinoakbhaa.SlcA Go.Proofs.Ytapbnbinoakbhaa.SlcM Go.Proofs.Ytapbnbinoakbhaa.SlcS
set_option linter.unusedVariables false
set_option linter.unusedSimpArgs false
set_option maxRecDepth 1000000

/-- a struct's block whose first cell holds an owned row -/
structure FB (W : World) (B base2 : Nat) (X : Array Value) (v : Value) (ys : List Int) : Prop where
  blk : W.heap[B]? = some (.cells (X.setIfInBounds 0 v) 56 (0, 0))
  row : Own W base2 v ys
theorem FB.ne {W : World} {B base2 : Nat} {X : Array Value} {v : Value} {ys : List Int} (h : FB W B base2 X v ys) : v.ownBlock ≠ some B := by
  intro e
  obtain ⟨cs, hc⟩ := own_typed h.row B e
  rw [h.blk] at hc
  injection hc with hc
  injection hc with _ hc
  exact absurd hc (by decide)
theorem FB.lt {W : World} {B base2 : Nat} {X : Array Value} {v : Value} {ys : List Int} (h : FB W B base2 X v ys) : B < W.heap.size := (Array.getElem?_eq_some_iff.1 h.blk).1
theorem FB.cell {W : World} {B base2 : Nat} {X : Array Value} {v : Value} {ys : List Int} (h : FB W B base2 X v ys) (hX : 0 < X.size) : W.cell? ⟨B, 0, none⟩ = some v := by
  rw [cell_of_row _ _ _ _ _ _ h.blk]
  simp [hX]
theorem blk_set {W : World} {B : Nat} {cs : Array Value} {t : TypeId} {fr : Nat × Nat} (h : W.heap[B]? = some (.cells cs t fr)) (u : Value) : (W.setCell ⟨B, 0, none⟩ u).heap[B]? = some (.cells (cs.setIfInBounds 0 u) t fr) := by
  simp [World.setCell, Array.getElem?_modify, h]
theorem after {W w1 : World} {B : Nat} {X : Array Value} {v : Value} (h : W.heap[B]? = some (.cells (X.setIfInBounds 0 v) 56 (0, 0))) (hlt : B < W.heap.size) (hne : v.ownBlock ≠ some B) (hX : 0 < X.size) (hg : W.grownBy w1 v.ownBlock) :
    w1.heap[B]? = some (.cells (X.setIfInBounds 0 v) 56 (0, 0)) ∧ w1.cell? ⟨B, 0, none⟩ = some v ∧ w1.frozen? ⟨B, 0, none⟩ = false := by
  have h1 := (hg.block B hlt (fun e => hne e.symm)).trans h
  refine ⟨h1, ?_, ?_⟩
  · rw [cell_of_row _ _ _ _ _ _ h1]
    simp [hX]
  · simp [World.frozen?, h1]
set_option maxHeartbeats 2000000 in
theorem all_c (x : Int) (B base base2 : Nat) (w0 W : World) (X : Array Value) (v : Value) (ys : List Int) (hX : 0 < X.size) (H : FB W B base2 X v ys) (HB : Below base w0 W) (hb : base ≤ base2) (hb2 : base2 ≤ W.heap.size) (hB : base ≤ B) (hl : ys.length ≤ 8589934592) :
    Calls Try.prog 56 #[.int .i64 x, .pointer (some ⟨B, 0, none⟩)] W fun e w' => e = .returned (.tuple #[]) ∧ ∃ v1, FB w' B base2 X v1 (ys ++ [x]) ∧ Below base w0 w' ∧ Kept W w' (fun k => k = B ∨ v.ownBlock = some k) := by
  have hc0 := H.cell hX
  have HA := Aside0.mk H
  have HBA := Aside0.mk HB
  have hW2 : Below W.heap.size W (W.alloc (.cells #[.int .i64 x] 3)) := below_alloc (Below.refl _ _) _
  have HW2 := Aside0.mk hW2
  have HO2 : Aside0 (Own (W.alloc (.cells #[.int .i64 x] 3)) base2 v ys) := ⟨pw_own_below H.row hW2⟩
  have HS2 : Aside0 (base2 ≤ (W.alloc (.cells #[.int .i64 x] 3)).heap.size) := ⟨Nat.le_trans hb2 hW2.size⟩
  have HL2 := Aside0.mk (lit_ci W x)
  have HNE := Aside0.mk H.ne
  have HBL : Aside0 ((W.alloc (.cells #[.int .i64 x] 3)).heap[B]? = some (.cells (X.setIfInBounds 0 v) 56 (0, 0))) := ⟨(hW2.block B H.lt).trans H.blk⟩
  have HLT := Aside0.mk H.lt
  have HHX := Aside0.mk hX
  clear hX H HB hW2
  go_enter Try.func56, Try.ntmps56
  go_wp2_with (first
    | ((with_reducible refine gate_builtin (b := .append) (xs := #[.tmp 4, .tmp 6]) rfl ?_); at_builtin; refine append_row2 (w0 := (W.alloc (.cells #[.int .i64 x] 3))) base2 rfl (.tmp 4) (.tmp 6) 29 29 3 .i64 8 rfl Try.underlying29 Try.underlying29 info3 (by decide) v ys [x] (some ⟨W.heap.size, 0, none⟩) 1 1 rfl rfl HO2.out HL2.out (Below.refl _ _) HS2.out (by omega) ?_; intro v1 w1 ho hbl hg hat; obtain ⟨hblk, hcell1, hfr1⟩ := after HBL.out (Nat.lt_of_lt_of_le HLT.out HW2.out.size) HNE.out HHX.out hg; obtain ⟨A1, c1, rfl, hcc1, hci1⟩ := Own.slice ho; clear hcc1 hci1; have HK1 := Aside0.mk hblk; have HO1 := Aside0.mk ho; have HB1 := Aside0.mk hbl; have HG1 := Aside0.mk hg; have HT1 := Aside0.mk hat; clear ho hbl hg hat hblk))
  go_end0
  obtain ⟨v1, hv1⟩ : ∃ v1, v1 = Value.slice A1 (ys ++ [x]).length c1 := ⟨_, rfl⟩
  rw [← hv1] at HO1 HT1
  rw [List.length_append, List.length_cons, List.length_nil, Nat.zero_add] at hv1
  rw [← hv1]
  have hne1 : v1.ownBlock ≠ some B := by
    intro e
    rcases HT1.out with h | ⟨b, h, hle⟩
    · exact HNE.out (h.symm.trans e)
    · rw [h] at e; injection e with e; have := HLT.out; have := HW2.out.size; omega
  refine ⟨rfl, v1, ⟨?_, ?_⟩, ?_, ?_⟩
  · have := blk_set HK1.out v1
    rwa [Array.setIfInBounds_setIfInBounds] at this
  · exact own_move HO1.out (fun k hk => by
      have : k ≠ B := fun e => hne1 (by rw [hk, e])
      simp [World.setCell, Array.getElem?_modify, Ne.symm this])
  · exact ((HBA.out.trans (HW2.out.mono (Nat.le_trans hb hb2))).trans (HB1.out.mono hb)).setCell hB v1
  · have k1 : Kept W w1 (fun k => k = B ∨ v.ownBlock = some k) := Kept.of_grown HG1.out (Kept.of_below HW2.out _) (fun k hk => .inl (.inr hk))
    exact k1.setCell (.inl (.inl rfl)) v1
set_option maxHeartbeats 2000000 in
theorem each_c (A : Option Addr) (c : Nat) (xs : List Int) (B base : Nat) (w0 W1 : World) (X : Array Value) (hX : 0 < X.size) (hX0 : X[0]? = some (.slice none 0 0)) (HS : Own W1 base (.slice A xs.length c) xs) (hblk : W1.heap[B]? = some (.cells X 56 (0, 0))) (HB : Below base w0 W1) (hb : base ≤ W1.heap.size) (hB : base ≤ B) (hl : xs.length ≤ 4294967296) :
    Calls Try.prog 55 #[.slice A xs.length c, .func (.func 56) #[] #[.pointer (some ⟨B, 0, none⟩)]] W1 fun e w' => e = .returned (.tuple #[]) ∧ ∃ v, FB w' B W1.heap.size X v xs ∧ Below base w0 w' := by
  have hXs : X.setIfInBounds 0 (.slice none 0 0) = X := by
    apply Array.ext
    · simp
    · intro i h1 h2
      rw [Array.getElem_setIfInBounds (by simpa using h2)]
      split
      · rename_i e
        subst e
        rw [Array.getElem?_eq_getElem hX] at hX0
        exact (Option.some.inj hX0).symm
      · rfl
  have H0 : Aside0 (FB W1 B W1.heap.size X (.slice none 0 0) []) := ⟨⟨by rw [hXs]; exact hblk, own_nil _ _ _ _⟩⟩
  have hneS : ∀ k, (Value.slice A xs.length c).ownBlock = some k → ¬ k = B := fun k hk e => by
    subst e
    obtain ⟨cs, hc⟩ := own_typed HS k hk
    rw [hblk] at hc
    injection hc with hc
    injection hc with _ hc
    exact absurd hc (by decide)
  have HR : Aside0 (∀ W', Kept W1 W' (fun k => k = B) → CI W' A xs) := ⟨Kd.C_kept_own (Kd.R_of_own (enc := Value.int .i64) (h1 := fun _ => rfl) (ok := fun k => (Value.slice A xs.length c).ownBlock = some k) HS (fun _ hk => hk)) hneS⟩
  have HBA := Aside0.mk HB
  have hlt : B < W1.heap.size := (Array.getElem?_eq_some_iff.1 hblk).1
  clear hXs hX0 hneS HS hblk HB
  go_enter Try.func55, Try.ntmps55
  go_wp2
  go_loopw [8] (fun i wr => ∃ m : Nat, Value.int .i64 (m : Int) = i ∧ m ≤ xs.length ∧ Aside0 (∃ v, FB wr B W1.heap.size X v (xs.take m) ∧ Below base w0 wr ∧ Kept W1 wr (fun k => k = B))) (fun i _ => xs.length - (intOf i).toNat)
  case atStart => exact ⟨0, rfl, by omega, ⟨_, H0.out, HBA.out, Kept.refl _ _⟩⟩
  case round =>
    obtain ⟨m, rfl, hml, HA⟩ := hrel
    obtain ⟨v, hf, hbl, hk⟩ := HA.out
    by_cases hlt : m < xs.length
    · obtain ⟨ad, e, hcell⟩ := Kd.at_int (HR.out _ hk) (m : Int) (by omega) (by omega)
      cases e
      rw [rd_at _ _ hlt] at hcell
      obtain ⟨x, hx⟩ : ∃ x, x = xs[m] := ⟨_, rfl⟩
      rw [← hx] at hcell
      simp only [Int.toNat_natCast] at hcell
      have C := Aside0.mk (all_c x B base W1.heap.size w0 wr X v (xs.take m) hX hf hbl hb hk.1 hB (by rw [List.length_take]; omega))
      have HK := Aside0.mk hk
      have HF := Aside0.mk hf
      have HST : Aside0 (xs.take m ++ [x] = xs.take (m + 1)) := ⟨by rw [List.take_succ_eq_append_getElem hlt, hx]⟩
      clear hx hf hbl hk HA
      go_wp2_with (go_at_call 56; refine C.out.mono ?_; rintro e w2 ⟨rfl, h2⟩; have H2 := Aside0.mk h2; clear h2)
      go_roundw
      case rel =>
        obtain ⟨v1, f1, b1, k1⟩ := H2.out
        rw [HST.out] at f1
        exact ⟨m + 1, by go_num, by omega, ⟨v1, f1, b1, HK.out.then_ k1 (fun k h => by
          rcases h with h | h
          · exact .inl h
          · exact .inr (own_base HF.out.row k h))⟩⟩
      case measure => simp [intOf]; omega
    · have HE : Aside0 (FB wr B W1.heap.size X v xs ∧ Below base w0 wr) := ⟨by rw [List.take_of_length_le (by omega)] at hf; exact hf, hbl⟩
      clear hf hbl hk HA HR
      go_wp2
      go_end0
      exact ⟨rfl, v, HE.out.1, HE.out.2⟩
end Go.Proofs.Ytapbnbinoakbhaa.SlcE
