/-
  Proved: what renderItem of a list writes. Conditions: a style's texts of at most 1000 bytes, levels of at most 1000, a text without tabs and line ends.
-/
import Derived.Test.YtemcjnminnnefaaDoorLstG
namespace Go.Proofs.YtemcjnminnnefaaDoor.LstH
open Go.RowKit Go.Proofs.YtemcjnminnnefaaDoorW.PrintWords Go.Proofs.YtemcjnminnnefaaDoor.Common Go.Proofs.YtemcjnminnnefaaDoor.LstT Go.Proofs.YtemcjnminnnefaaDoor.LstR Go.Proofs.YtemcjnminnnefaaDoor.LstA Go.Proofs.YtemcjnminnnefaaDoor.LstB Go.Proofs.YtemcjnminnnefaaDoor.LstC Go.Proofs.YtemcjnminnnefaaDoor.LstE Go.Proofs.YtemcjnminnnefaaDoor.LstF Go.Proofs.YtemcjnminnnefaaDoor.LstG Go.Proofs.YtemcjnminnnefaaDoor.Bld
set_option linter.unusedVariables false
set_option linter.unusedSimpArgs false
set_option maxRecDepth 1000000
theorem apply_c (s : ByteArray) (W : World) : Calls Tryd.prog 35 #[.int .i64 0, .string s] W fun e w' => e = .returned (.string s) ∧ w' = W := by
  go_enter Tryd.func35, Tryd.ntmps35
  go_wp2
  go_ret
  exact ⟨rfl, rfl⟩
section
variable {q qs : Nat} {its : List (Nat × ByteArray)} {y : Sty} {vs : ByteArray} {Bb : Nat} {W0 : World} {acc : List UInt8} {m : Nat} {W : World}
def itemL (its : List (Nat × ByteArray)) (y : Sty) (vs : ByteArray) (idx lv : Nat) (s : ByteArray) (t f o l b : Bool) : List UInt8 := (if idx = 0 then [] else [10]) ++ y.px.data.toList ++ preL its y vs idx lv ++ (bulletF y t f o l b).data.toList ++ [32] ++ s.data.toList
set_option maxHeartbeats 2000000 in
theorem item_c (h : RB q qs its y vs Bb W0 acc m W) (hy : shortY y vs) (hm : m ≤ 100000000000) (idx lv g : Nat) (s : ByteArray) (hs : good s) (hl : its.length ≤ 100000) (hi : idx ≤ 100000) (hlv : lv ≤ 1000) (t f o l b : Bool)
    (hg : ∀ W, Below Bb W0 W → W.cell? ⟨g, 0, none⟩ = some (.int .i64 (lv : Int)) ∧ W.cell? ⟨g, 1, none⟩ = some (.string s)) :
    Calls Tryd.prog 24 #[.pointer (some ⟨q, 0, none⟩), .pointer (some ⟨Bb, 0, none⟩), .int .i64 (idx : Int), .pointer (some ⟨g, 0, none⟩), .agg #[.bool t, .bool f, .bool o, .bool l, .bool b]] W fun e w' => ∃ u, e = .returned u ∧ RB q qs its y vs Bb W0 (acc ++ itemL its y vs idx lv s t f o l b) (m + 1010000) w' := by
  have HB := Aside0.mk h
  have HY := Aside0.mk hy
  have HG := Aside0.mk hg
  have HGd := Aside0.mk hs
  have HA := fun W => Aside0.mk (apply_c s W)
  have HH := fun W => Aside0.mk (has_c s hs W)
  have HSp := fun W => Aside0.mk (split_c s hs W)
  have hs1 := hs.1
  clear h hy hg hs
  by_cases hz : idx = 0
  · subst hz
    go_enter Tryd.func24, Tryd.ntmps24
    go_wp2_with (first | ((with_reducible refine gate_dst (N := 9) rfl ?_); (try (refine gate_guard (by rfl) ?_; dsimp only)); refine box_event ?hg (N := 9) ?hd (cs := #[.bool t, .bool f, .bool o, .bool l, .bool b]) (t := 58) ?hr ?_; (case hd => rfl); (case hg => rfl); (case hr => first | (go_simp; done) | (go_simp; rfl)); intro gb hgb w10 hbox hb; have HB1 := Aside0.mk (HB.out.below hb); have HBX := Aside0.mk hbox; clear hgb hbox hb))
    have HBY := HBX
    have HB2 := Aside0.mk (show RB q qs its y vs Bb W0 (acc ++ []) (m + 1) w10 from ⟨HB1.out.rd, HB1.out.bs.mono (by simp) (by have := HB1.out.bs.len; simp; omega)⟩)
    obtain ⟨c1, c5, s0, s1, s2, s3, s4, s5, s6, s7, s8⟩ := HB2.out.cells
    obtain ⟨g0, g1⟩ := HG.out _ HB2.out.bs.bel
    have HBN := fun n => Aside0.mk (HB2.out.below (pw_below_drewN (Below.refl _ _) n))
    refine wp_region_held_drew (S := fun w' => w'.cell? ⟨q, 5, none⟩ = some (.pointer (some ⟨qs, 0, none⟩)) ∧ w'.cell? ⟨qs, 0, none⟩ = some (.int .i64 0) ∧ w'.cell? ⟨g, 1, none⟩ = some (.string s)) (by kernel_rfl) ⟨c5, s0, g1⟩ (fun hHeld => ?_)
    refine tk0 (v := ?_) (by kernel_rfl) (by kernel_rfl) (by kernel_rfl) (fun _ _ _ h => h) (Or.inl ⟨by rfl, ?_⟩) hHeld ?_
    rotate_left
    · (intro w hSw; obtain ⟨hc5, hs0, hg1⟩ := hSw; go_simp; try with_reducible rfl)
    try simp only [Act.put, List.setIfInBounds_toArray, List.set_cons_zero, List.set_cons_succ]
    refine tk1 (v := ?_) (by kernel_rfl) (by kernel_rfl) (by kernel_rfl) (fun _ _ _ h => h) (Or.inl ⟨by rfl, ?_⟩) hHeld ?_
    rotate_left
    · (intro w hSw; obtain ⟨hc5, hs0, hg1⟩ := hSw; go_simp; try with_reducible rfl)
    try simp only [Act.put, List.setIfInBounds_toArray, List.set_cons_zero, List.set_cons_succ]
    refine tk2 (v := ?_) (by kernel_rfl) (by kernel_rfl) (by kernel_rfl) (fun _ _ _ h => h) (Or.inl ⟨by rfl, ?_⟩) hHeld ?_
    rotate_left
    · (intro w hSw; obtain ⟨hc5, hs0, hg1⟩ := hSw; go_simp; try with_reducible rfl)
    try simp only [Act.put, List.setIfInBounds_toArray, List.set_cons_zero, List.set_cons_succ]
    refine tk3 (v := ?_) (by kernel_rfl) (by kernel_rfl) (by kernel_rfl) (fun _ _ _ h => h) (Or.inl ⟨by rfl, ?_⟩) hHeld ?_
    rotate_left
    · (intro w hSw; obtain ⟨hc5, hs0, hg1⟩ := hSw; go_simp; try with_reducible rfl)
    try simp only [Act.put, List.setIfInBounds_toArray, List.set_cons_zero, List.set_cons_succ]
    refine tk4 (v := ?_) (by kernel_rfl) (by kernel_rfl) (by kernel_rfl) (fun _ _ _ h => h) (Or.inl ⟨by rfl, ?_⟩) hHeld ?_
    rotate_left
    · (intro w hSw; obtain ⟨hc5, hs0, hg1⟩ := hSw; go_simp; try with_reducible rfl)
    try simp only [Act.put, List.setIfInBounds_toArray, List.set_cons_zero, List.set_cons_succ]
    refine tk5 (v := ?_) (by kernel_rfl) (by kernel_rfl) (by kernel_rfl) (fun _ _ _ h => h) (Or.inl ⟨by rfl, ?_⟩) hHeld ?_
    rotate_left
    · (intro w hSw; obtain ⟨hc5, hs0, hg1⟩ := hSw; go_simp; try with_reducible rfl)
    try simp only [Act.put, List.setIfInBounds_toArray, List.set_cons_zero, List.set_cons_succ]
    refine tk6 (v := ?_) (by kernel_rfl) (by kernel_rfl) (by kernel_rfl) (fun _ _ _ h => h) (Or.inl ⟨by rfl, ?_⟩) hHeld ?_
    rotate_left
    · (intro w hSw; obtain ⟨hc5, hs0, hg1⟩ := hSw; go_simp; try with_reducible rfl)
    try simp only [Act.put, List.setIfInBounds_toArray, List.set_cons_zero, List.set_cons_succ]
    refine tk7 (v := ?_) (by kernel_rfl) (by kernel_rfl) (by kernel_rfl) (fun _ _ _ h => h) (Or.inl ⟨by rfl, ?_⟩) hHeld ?_
    rotate_left
    · (intro w hSw; obtain ⟨hc5, hs0, hg1⟩ := hSw; go_simp; try with_reducible rfl)
    try simp only [Act.put, List.setIfInBounds_toArray, List.set_cons_zero, List.set_cons_succ]
    refine tk8 (v := ?_) (by kernel_rfl) (by kernel_rfl) (by kernel_rfl) (fun _ _ _ h => h) (Or.inl ⟨by rfl, ?_⟩) hHeld ?_
    rotate_left
    · (intro w hSw; obtain ⟨hc5, hs0, hg1⟩ := hSw; go_simp; try with_reducible rfl)
    try simp only [Act.put, List.setIfInBounds_toArray, List.set_cons_zero, List.set_cons_succ]
    refine tk9 (v := ?_) (by kernel_rfl) (by kernel_rfl) (by kernel_rfl) (fun _ _ _ h => h) (Or.inl ⟨by rfl, ?_⟩) hHeld ?_
    rotate_left
    · (intro w hSw; obtain ⟨hc5, hs0, hg1⟩ := hSw; go_simp; try with_reducible rfl)
    try simp only [Act.put, List.setIfInBounds_toArray, List.set_cons_zero, List.set_cons_succ]
    refine tk10 (v := ?_) (by kernel_rfl) (by kernel_rfl) (by kernel_rfl) (fun _ _ _ h => h) (Or.inl ⟨by rfl, ?_⟩) hHeld ?_
    rotate_left
    · (intro w hSw; obtain ⟨hc5, hs0, hg1⟩ := hSw; go_simp; try with_reducible rfl)
    try simp only [Act.put, List.setIfInBounds_toArray, List.set_cons_zero, List.set_cons_succ]
    refine ac11 (by kernel_rfl) (fun K hK => ?_)
    go_simp
    (go_at_call 35; refine (HA _).out.mono ?_; rintro e w4 ⟨rfl, hw⟩; replace hw := hw.symm; subst hw)
    try go_wp2_with fail
    refine hK.out _ _ hHeld (fun hHeld => ?_)
    clear hK K
    try simp only [Act.put, List.setIfInBounds_toArray, List.set_cons_zero, List.set_cons_succ]
    refine tk12 (v := ?_) (by kernel_rfl) (by kernel_rfl) (by kernel_rfl) (fun _ _ _ h => h) (Or.inl ⟨by rfl, ?_⟩) hHeld ?_
    rotate_left
    · (intro w hSw; obtain ⟨hc5, hs0, hg1⟩ := hSw; go_simp; try with_reducible rfl)
    try simp only [Act.put, List.setIfInBounds_toArray, List.set_cons_zero, List.set_cons_succ]
    refine wpAnyH_done (by kernel_rfl) ?_ _
    go_wp2_with (first
      | (go_at_call 36; refine (HH _).out.mono ?_; rintro e w5 ⟨rfl, hd⟩; obtain ⟨nd, rfl⟩ := hd)
      | (go_at_call 38; refine (HSp _).out.mono ?_; rintro e ws ⟨v6, rfl, hr6, hb6⟩; obtain ⟨A6, c6, rfl, _, hC6⟩ := Kd.R_reads hr6; have HB6 := Aside0.mk ((HBN _).out.below hb6); have HC6 := Aside0.mk hC6; have HX6 := Aside0.mk (K58.of_below hb6 gb _ HBY.out); clear hr6 hb6 hC6))
    obtain ⟨ad6, cc6, rfl, _, hK6, hcc6⟩ := Kd.C_get HC6.out (⟨#[]⟩ : ByteArray) 0 (by omega) (by simp)
    have hK7 : cc6 = [.string s] := hK6
    subst hK7
    have hel := hcc6 0 _ rfl
    rw [show ((0 : Int).toNat * Kd.string.sz + 0) = 0 from rfl] at hel
    rw [show ad6.add 0 = ad6 by obtain ⟨b, o, e⟩ := ad6; cases e <;> simp [Addr.add]] at hel
    clear hcc6 hK6 HC6 HBN HH HSp HA hHeld
    clear c1 c5 s0 s1 s2 s3 s4 s5 s6 s7 s8 g0 g1
    have hg6 := (HG.out _ HB6.out.bs.bel).1
    go_loopw [53] (fun i wr => ∃ k : Nat, Value.int .i64 (k : Int) = i ∧ ((k = 0 ∧ wr = ws) ∨ (k = 1 ∧ Aside0 (RB q qs its y vs Bb W0 (acc ++ itemL its y vs 0 lv s t f o l b) (m + 1010000) wr)))) (fun i _ => 1 - (intOf i).toNat)
    case atStart => exact ⟨0, rfl, .inl ⟨rfl, rfl⟩⟩
    case round =>
      obtain ⟨k, rfl, hrel⟩ := hrel
      rcases hrel with ⟨rfl, hw⟩ | ⟨rfl, HF⟩
      · replace hw := hw.symm
        subst hw
        go_wp2_with (first
          | (go_at_call 39; refine (prefix_loop HB6.out HY.out (by omega) 0 lv hl hi hlv).mono ?_; rintro e w7 ⟨u7, rfl, hp7, hk7⟩; have HP7 := Aside0.mk hp7; have hx7 := hk7 gb _ HX6.out; have b0 : w7.cell? ⟨gb, 0, none⟩ = some (.bool t) := (blk_cell hx7 0).trans rfl; have b1 : w7.cell? ⟨gb, 1, none⟩ = some (.bool f) := (blk_cell hx7 1).trans rfl; have b2 : w7.cell? ⟨gb, 2, none⟩ = some (.bool o) := (blk_cell hx7 2).trans rfl; have b3 : w7.cell? ⟨gb, 3, none⟩ = some (.bool l) := (blk_cell hx7 3).trans rfl; have b4 : w7.cell? ⟨gb, 4, none⟩ = some (.bool b) := (blk_cell hx7 4).trans rfl; clear hp7 hk7 hx7)
          | (go_at_call 40; refine (bullet_c HP7.out HY.out (by omega) t f o l b).mono ?_; rintro e w8 ⟨u8, rfl, hb8⟩; have HB8 := Aside0.mk hb8; clear hb8)
          | (go_at_call 41; refine (HB8.out.str s hs1 (by omega)).mono ?_; rintro e w9 ⟨u9, rfl, hb9⟩; have HB9 := Aside0.mk hb9; clear hb9))
        have HE : Aside0 (RB q qs its y vs Bb W0 (acc ++ itemL its y vs 0 lv s t f o l b) (m + 1010000) w9) := Aside0.mk ⟨HB9.out.rd, HB9.out.bs.mono (by simp [itemL, List.append_assoc]) (by have := HB9.out.bs.len; simp [itemL, List.append_assoc] at this ⊢; omega)⟩
        go_roundw
        case rel => exact ⟨1, by go_num, .inr ⟨rfl, HE⟩⟩
        case measure => simp [intOf]
      · go_wp2
        go_end0
        exact ⟨_, rfl, HF.out⟩
  · have hd : decide ((idx : Int) > 0) = true := decide_eq_true (by omega)
    go_enter Tryd.func24, Tryd.ntmps24
    go_wp2_with (first | ((with_reducible refine gate_dst (N := 9) rfl ?_); (try (refine gate_guard (by rfl) ?_; dsimp only)); refine box_event ?hg (N := 9) ?hd (cs := #[.bool t, .bool f, .bool o, .bool l, .bool b]) (t := 58) ?hr ?_; (case hd => rfl); (case hg => rfl); (case hr => first | (go_simp; done) | (go_simp; rfl)); intro gb hgb w10 hbox hb; have HB1 := Aside0.mk (HB.out.below hb); have HBX := Aside0.mk hbox; clear hgb hbox hb) | (go_at_call 34; refine (HB1.out.runeK 10 (by decide) 10 rfl (by omega)).mono ?_; rintro e w11 ⟨v11, rfl, hb11, hk11⟩; have HB11 := Aside0.mk hb11; have HBY := Aside0.mk (hk11 gb _ HBX.out); clear hb11 hk11))
    have HB2 := Aside0.mk (show RB q qs its y vs Bb W0 (acc ++ [10]) (m + 1) w11 from HB11.out)
    obtain ⟨c1, c5, s0, s1, s2, s3, s4, s5, s6, s7, s8⟩ := HB2.out.cells
    obtain ⟨g0, g1⟩ := HG.out _ HB2.out.bs.bel
    have HBN := fun n => Aside0.mk (HB2.out.below (pw_below_drewN (Below.refl _ _) n))
    refine wp_region_held_drew (S := fun w' => w'.cell? ⟨q, 5, none⟩ = some (.pointer (some ⟨qs, 0, none⟩)) ∧ w'.cell? ⟨qs, 0, none⟩ = some (.int .i64 0) ∧ w'.cell? ⟨g, 1, none⟩ = some (.string s)) (by kernel_rfl) ⟨c5, s0, g1⟩ (fun hHeld => ?_)
    refine tk0 (v := ?_) (by kernel_rfl) (by kernel_rfl) (by kernel_rfl) (fun _ _ _ h => h) (Or.inl ⟨by rfl, ?_⟩) hHeld ?_
    rotate_left
    · (intro w hSw; obtain ⟨hc5, hs0, hg1⟩ := hSw; go_simp; try with_reducible rfl)
    try simp only [Act.put, List.setIfInBounds_toArray, List.set_cons_zero, List.set_cons_succ]
    refine tk1 (v := ?_) (by kernel_rfl) (by kernel_rfl) (by kernel_rfl) (fun _ _ _ h => h) (Or.inl ⟨by rfl, ?_⟩) hHeld ?_
    rotate_left
    · (intro w hSw; obtain ⟨hc5, hs0, hg1⟩ := hSw; go_simp; try with_reducible rfl)
    try simp only [Act.put, List.setIfInBounds_toArray, List.set_cons_zero, List.set_cons_succ]
    refine tk2 (v := ?_) (by kernel_rfl) (by kernel_rfl) (by kernel_rfl) (fun _ _ _ h => h) (Or.inl ⟨by rfl, ?_⟩) hHeld ?_
    rotate_left
    · (intro w hSw; obtain ⟨hc5, hs0, hg1⟩ := hSw; go_simp; try with_reducible rfl)
    try simp only [Act.put, List.setIfInBounds_toArray, List.set_cons_zero, List.set_cons_succ]
    refine tk3 (v := ?_) (by kernel_rfl) (by kernel_rfl) (by kernel_rfl) (fun _ _ _ h => h) (Or.inl ⟨by rfl, ?_⟩) hHeld ?_
    rotate_left
    · (intro w hSw; obtain ⟨hc5, hs0, hg1⟩ := hSw; go_simp; try with_reducible rfl)
    try simp only [Act.put, List.setIfInBounds_toArray, List.set_cons_zero, List.set_cons_succ]
    refine tk4 (v := ?_) (by kernel_rfl) (by kernel_rfl) (by kernel_rfl) (fun _ _ _ h => h) (Or.inl ⟨by rfl, ?_⟩) hHeld ?_
    rotate_left
    · (intro w hSw; obtain ⟨hc5, hs0, hg1⟩ := hSw; go_simp; try with_reducible rfl)
    try simp only [Act.put, List.setIfInBounds_toArray, List.set_cons_zero, List.set_cons_succ]
    refine tk5 (v := ?_) (by kernel_rfl) (by kernel_rfl) (by kernel_rfl) (fun _ _ _ h => h) (Or.inl ⟨by rfl, ?_⟩) hHeld ?_
    rotate_left
    · (intro w hSw; obtain ⟨hc5, hs0, hg1⟩ := hSw; go_simp; try with_reducible rfl)
    try simp only [Act.put, List.setIfInBounds_toArray, List.set_cons_zero, List.set_cons_succ]
    refine tk6 (v := ?_) (by kernel_rfl) (by kernel_rfl) (by kernel_rfl) (fun _ _ _ h => h) (Or.inl ⟨by rfl, ?_⟩) hHeld ?_
    rotate_left
    · (intro w hSw; obtain ⟨hc5, hs0, hg1⟩ := hSw; go_simp; try with_reducible rfl)
    try simp only [Act.put, List.setIfInBounds_toArray, List.set_cons_zero, List.set_cons_succ]
    refine tk7 (v := ?_) (by kernel_rfl) (by kernel_rfl) (by kernel_rfl) (fun _ _ _ h => h) (Or.inl ⟨by rfl, ?_⟩) hHeld ?_
    rotate_left
    · (intro w hSw; obtain ⟨hc5, hs0, hg1⟩ := hSw; go_simp; try with_reducible rfl)
    try simp only [Act.put, List.setIfInBounds_toArray, List.set_cons_zero, List.set_cons_succ]
    refine tk8 (v := ?_) (by kernel_rfl) (by kernel_rfl) (by kernel_rfl) (fun _ _ _ h => h) (Or.inl ⟨by rfl, ?_⟩) hHeld ?_
    rotate_left
    · (intro w hSw; obtain ⟨hc5, hs0, hg1⟩ := hSw; go_simp; try with_reducible rfl)
    try simp only [Act.put, List.setIfInBounds_toArray, List.set_cons_zero, List.set_cons_succ]
    refine tk9 (v := ?_) (by kernel_rfl) (by kernel_rfl) (by kernel_rfl) (fun _ _ _ h => h) (Or.inl ⟨by rfl, ?_⟩) hHeld ?_
    rotate_left
    · (intro w hSw; obtain ⟨hc5, hs0, hg1⟩ := hSw; go_simp; try with_reducible rfl)
    try simp only [Act.put, List.setIfInBounds_toArray, List.set_cons_zero, List.set_cons_succ]
    refine tk10 (v := ?_) (by kernel_rfl) (by kernel_rfl) (by kernel_rfl) (fun _ _ _ h => h) (Or.inl ⟨by rfl, ?_⟩) hHeld ?_
    rotate_left
    · (intro w hSw; obtain ⟨hc5, hs0, hg1⟩ := hSw; go_simp; try with_reducible rfl)
    try simp only [Act.put, List.setIfInBounds_toArray, List.set_cons_zero, List.set_cons_succ]
    refine ac11 (by kernel_rfl) (fun K hK => ?_)
    go_simp
    (go_at_call 35; refine (HA _).out.mono ?_; rintro e w4 ⟨rfl, hw⟩; replace hw := hw.symm; subst hw)
    try go_wp2_with fail
    refine hK.out _ _ hHeld (fun hHeld => ?_)
    clear hK K
    try simp only [Act.put, List.setIfInBounds_toArray, List.set_cons_zero, List.set_cons_succ]
    refine tk12 (v := ?_) (by kernel_rfl) (by kernel_rfl) (by kernel_rfl) (fun _ _ _ h => h) (Or.inl ⟨by rfl, ?_⟩) hHeld ?_
    rotate_left
    · (intro w hSw; obtain ⟨hc5, hs0, hg1⟩ := hSw; go_simp; try with_reducible rfl)
    try simp only [Act.put, List.setIfInBounds_toArray, List.set_cons_zero, List.set_cons_succ]
    refine wpAnyH_done (by kernel_rfl) ?_ _
    go_wp2_with (first
      | (go_at_call 36; refine (HH _).out.mono ?_; rintro e w5 ⟨rfl, hd⟩; obtain ⟨nd, rfl⟩ := hd)
      | (go_at_call 38; refine (HSp _).out.mono ?_; rintro e ws ⟨v6, rfl, hr6, hb6⟩; obtain ⟨A6, c6, rfl, _, hC6⟩ := Kd.R_reads hr6; have HB6 := Aside0.mk ((HBN _).out.below hb6); have HC6 := Aside0.mk hC6; have HX6 := Aside0.mk (K58.of_below hb6 gb _ HBY.out); clear hr6 hb6 hC6))
    obtain ⟨ad6, cc6, rfl, _, hK6, hcc6⟩ := Kd.C_get HC6.out (⟨#[]⟩ : ByteArray) 0 (by omega) (by simp)
    have hK7 : cc6 = [.string s] := hK6
    subst hK7
    have hel := hcc6 0 _ rfl
    rw [show ((0 : Int).toNat * Kd.string.sz + 0) = 0 from rfl] at hel
    rw [show ad6.add 0 = ad6 by obtain ⟨b, o, e⟩ := ad6; cases e <;> simp [Addr.add]] at hel
    clear hcc6 hK6 HC6 HBN HH HSp HA hHeld
    clear c1 c5 s0 s1 s2 s3 s4 s5 s6 s7 s8 g0 g1
    have hg6 := (HG.out _ HB6.out.bs.bel).1
    go_loopw [53] (fun i wr => ∃ k : Nat, Value.int .i64 (k : Int) = i ∧ ((k = 0 ∧ wr = ws) ∨ (k = 1 ∧ Aside0 (RB q qs its y vs Bb W0 (acc ++ itemL its y vs idx lv s t f o l b) (m + 1010000) wr)))) (fun i _ => 1 - (intOf i).toNat)
    case atStart => exact ⟨0, rfl, .inl ⟨rfl, rfl⟩⟩
    case round =>
      obtain ⟨k, rfl, hrel⟩ := hrel
      rcases hrel with ⟨rfl, hw⟩ | ⟨rfl, HF⟩
      · replace hw := hw.symm
        subst hw
        go_wp2_with (first
          | (go_at_call 39; refine (prefix_loop HB6.out HY.out (by omega) idx lv hl hi hlv).mono ?_; rintro e w7 ⟨u7, rfl, hp7, hk7⟩; have HP7 := Aside0.mk hp7; have hx7 := hk7 gb _ HX6.out; have b0 : w7.cell? ⟨gb, 0, none⟩ = some (.bool t) := (blk_cell hx7 0).trans rfl; have b1 : w7.cell? ⟨gb, 1, none⟩ = some (.bool f) := (blk_cell hx7 1).trans rfl; have b2 : w7.cell? ⟨gb, 2, none⟩ = some (.bool o) := (blk_cell hx7 2).trans rfl; have b3 : w7.cell? ⟨gb, 3, none⟩ = some (.bool l) := (blk_cell hx7 3).trans rfl; have b4 : w7.cell? ⟨gb, 4, none⟩ = some (.bool b) := (blk_cell hx7 4).trans rfl; clear hp7 hk7 hx7)
          | (go_at_call 40; refine (bullet_c HP7.out HY.out (by omega) t f o l b).mono ?_; rintro e w8 ⟨u8, rfl, hb8⟩; have HB8 := Aside0.mk hb8; clear hb8)
          | (go_at_call 41; refine (HB8.out.str s hs1 (by omega)).mono ?_; rintro e w9 ⟨u9, rfl, hb9⟩; have HB9 := Aside0.mk hb9; clear hb9))
        have HE : Aside0 (RB q qs its y vs Bb W0 (acc ++ itemL its y vs idx lv s t f o l b) (m + 1010000) w9) := Aside0.mk ⟨HB9.out.rd, HB9.out.bs.mono (by simp [itemL, hz, List.append_assoc]) (by have := HB9.out.bs.len; simp [itemL, hz, List.append_assoc] at this ⊢; omega)⟩
        go_roundw
        case rel => exact ⟨1, by go_num, .inr ⟨rfl, HE⟩⟩
        case measure => simp [intOf]
      · go_wp2
        go_end0
        exact ⟨_, rfl, HF.out⟩
end
end Go.Proofs.YtemcjnminnnefaaDoor.LstH
