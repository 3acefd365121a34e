/-
  Proved: what stands ahead of an item's text in a list's rendering. Conditions: a style's texts of at most 1000 bytes, levels of at most 1000.
-/
import Derived.Test.YtemcjnminnnefaaDoorLstF
namespace Go.Proofs.YtemcjnminnnefaaDoor.LstG
open Go.RowKit Go.Proofs.YtemcjnminnnefaaDoorW.PrintWords Go.Proofs.YtemcjnminnnefaaDoor.Common Go.Proofs.YtemcjnminnnefaaDoor.LstT Go.Proofs.YtemcjnminnnefaaDoor.LstA Go.Proofs.YtemcjnminnnefaaDoor.LstB Go.Proofs.YtemcjnminnnefaaDoor.LstC Go.Proofs.YtemcjnminnnefaaDoor.LstE Go.Proofs.YtemcjnminnnefaaDoor.LstF Go.Proofs.YtemcjnminnnefaaDoor.Bld
set_option linter.unusedVariables false
set_option linter.unusedSimpArgs false
set_option maxRecDepth 1000000
section
variable {q qs : Nat} {its : List (Nat × ByteArray)} {y : Sty} {vs : ByteArray} {Bb : Nat} {W0 : World} {acc : List UInt8} {m : Nat} {W : World}
theorem bullet_c (h : RB q qs its y vs Bb W0 acc m W) (hy : shortY y vs) (hm : m ≤ 1000000000000) (t f o l b : Bool) :
    Calls Tryd.prog 40 #[.pointer (some ⟨q, 0, none⟩), .pointer (some ⟨Bb, 0, none⟩), .int .i64 0, .agg #[.bool t, .bool f, .bool o, .bool l, .bool b]] W fun e w' => ∃ u, e = .returned u ∧ RB q qs its y vs Bb W0 (acc ++ (bulletF y t f o l b).data.toList ++ [32]) (m + 2000) w' := by
  have HB := Aside0.mk h
  have HY := Aside0.mk hy
  clear h hy
  go_enter Tryd.func40, Tryd.ntmps40
  go_wp2_with (first
    | ((with_reducible refine gate_dst (N := 7) rfl ?_); (try (refine gate_guard (by rfl) ?_; dsimp only)); refine box_event ?hg (N := 7) ?hd (cs := #[.bool t, .bool f, .bool o, .bool l, .bool b]) (t := 58) ?hr ?_; (case hd => rfl); (case hg => rfl); (case hr => first | (go_simp; done) | (go_simp; rfl)); intro gb hgb w10 hbox hb; have HB1 := Aside0.mk (HB.out.below hb); have b0 : w10.cell? ⟨gb, 0, none⟩ = some (.bool t) := (blk_cell hbox 0).trans rfl; have b1 : w10.cell? ⟨gb, 1, none⟩ = some (.bool f) := (blk_cell hbox 1).trans rfl; have b2 : w10.cell? ⟨gb, 2, none⟩ = some (.bool o) := (blk_cell hbox 2).trans rfl; have b3 : w10.cell? ⟨gb, 3, none⟩ = some (.bool l) := (blk_cell hbox 3).trans rfl; have b4 : w10.cell? ⟨gb, 4, none⟩ = some (.bool b) := (blk_cell hbox 4).trans rfl; clear hgb hbox hb)
    | (go_at_call 56; refine (single_c HB1.out HY.out hm t f o l b).mono ?_; rintro e w2 ⟨v2, rfl, hb2⟩; have HB2 := Aside0.mk hb2; clear hb2))
  go_end0
  exact ⟨_, rfl, HB2.out⟩
def preL (its : List (Nat × ByteArray)) (y : Sty) (vs : ByteArray) (idx j : Nat) : List UInt8 := (List.range j).flatMap fun i => if moreF its i idx then y.ve.data.toList else vs.data.toList
theorem preL_succ (its : List (Nat × ByteArray)) (y : Sty) (vs : ByteArray) (idx j : Nat) : preL its y vs idx (j + 1) = preL its y vs idx j ++ (if moreF its j idx then y.ve.data.toList else vs.data.toList) := by
  unfold preL
  rw [List.range_succ, List.flatMap_append]
  simp
theorem more_r (h : RB q qs its y vs Bb W0 acc m W) (lev idx : Nat) (hl : its.length ≤ 100000) (hi : idx ≤ 100000) (hlv : lev ≤ 100000) :
    Calls Tryd.prog 23 #[.pointer (some ⟨q, 0, none⟩), .int .i64 (lev : Int), .int .i64 (idx : Int)] W fun e w' => e = .returned (.bool (moreF its lev idx)) ∧ w' = W :=
  more_c q qs its y vs lev idx hl hi hlv W W (h.rd W h.bs.bel) (Below.refl _ _)
set_option maxHeartbeats 1000000 in
theorem prefix_loop (h : RB q qs its y vs Bb W0 acc m W) (hy : shortY y vs) (hm : m ≤ 1000000000000) (idx lev : Nat) (hl : its.length ≤ 100000) (hi : idx ≤ 100000) (hlv : lev ≤ 1000) :
    Calls Tryd.prog 39 #[.pointer (some ⟨q, 0, none⟩), .pointer (some ⟨Bb, 0, none⟩), .int .i64 (idx : Int), .int .i64 (lev : Int)] W fun e w' => ∃ u, e = .returned u ∧ RB q qs its y vs Bb W0 (acc ++ y.px.data.toList ++ preL its y vs idx lev) (m + 1000 + 1000 * lev) w' ∧ K58 W w' := by
  obtain ⟨y1, y2, y3, y4, y5, y6, y7, y8⟩ := hy
  have HB := Aside0.mk h
  obtain ⟨c1, c5, s0, s1, s2, s3, s4, s5, s6, s7, s8⟩ := h.cells
  clear h
  by_cases hp : y.px.toList = []
  · have hp1 : (y.px.toList == []) = true := by rw [hp]; rfl
    have hp2 : (!(y.px.toList == [])) = false := by rw [hp1]; rfl
    have HK0 := Aside0.mk (K58.refl W)
    have HE : Aside0 (RB q qs its y vs Bb W0 (acc ++ y.px.data.toList ++ preL its y vs idx 0) (m + 1000 + 1000 * 0) W) := Aside0.mk ⟨HB.out.rd, HB.out.bs.mono (by rw [← tl, hp]; simp [preL]) (by have := HB.out.bs.len; rw [← tl, hp]; simp [preL]; omega)⟩
    go_enter Tryd.func39, Tryd.ntmps39
    go_wp2
    go_loopw [8] (fun i wr => ∃ j : Nat, Value.int .i64 (j : Int) = i ∧ j ≤ lev ∧ Aside0 (RB q qs its y vs Bb W0 (acc ++ y.px.data.toList ++ preL its y vs idx j) (m + 1000 + 1000 * j) wr) ∧ Aside0 (K58 W wr)) (fun i _ => lev - (intOf i).toNat)
    case atStart => exact ⟨0, rfl, by omega, HE, HK0⟩
    case round =>
      obtain ⟨j, rfl, hj, HR, HK⟩ := hrel
      clear c1 c5 s0 s1 s2 s3 s4 s5 s6 s7 s8
      obtain ⟨c1, c5, s0, s1, s2, s3, s4, s5, s6, s7, s8⟩ := HR.out.cells
      by_cases hlt : j < lev
      · have hd : decide ((j : Int) < (lev : Int)) = true := decide_eq_true (by omega)
        have HM := Aside0.mk (more_r HR.out j idx hl hi (by omega))
        have HS := Aside0.mk (preL_succ its y vs idx j)
        cases hb : moreF its j idx with
        | true =>
          rw [hb] at HM HS
          go_wp2_with (first
            | (go_at_call 23; refine HM.out.mono ?_; rintro e w2 ⟨rfl, hw⟩; replace hw := hw.symm; subst hw)
            | (go_at_call 41; refine (HR.out.strK _ y5 (by omega)).mono ?_; rintro e w3 ⟨v3, rfl, hb3, hk3⟩; have HB3 := Aside0.mk hb3; have HK3 := Aside0.mk (HK.out.trans hk3); clear hb3 hk3))
          have HE3 : Aside0 (RB q qs its y vs Bb W0 (acc ++ y.px.data.toList ++ preL its y vs idx (j + 1)) (m + 1000 + 1000 * (j + 1)) w3) := Aside0.mk ⟨HB3.out.rd, HB3.out.bs.mono (by rw [HS.out]; simp) (by have := HB3.out.bs.len; rw [HS.out]; simp at this ⊢; omega)⟩
          go_roundw
          case rel => exact ⟨j + 1, by go_num, by omega, HE3, HK3⟩
          case measure => simp [intOf]; omega
        | false =>
          rw [hb] at HM HS
          go_wp2_with (first
            | (go_at_call 23; refine HM.out.mono ?_; rintro e w2 ⟨rfl, hw⟩; replace hw := hw.symm; subst hw)
            | (go_at_call 41; refine (HR.out.strK _ y8 (by omega)).mono ?_; rintro e w3 ⟨v3, rfl, hb3, hk3⟩; have HB3 := Aside0.mk hb3; have HK3 := Aside0.mk (HK.out.trans hk3); clear hb3 hk3))
          have HE3 : Aside0 (RB q qs its y vs Bb W0 (acc ++ y.px.data.toList ++ preL its y vs idx (j + 1)) (m + 1000 + 1000 * (j + 1)) w3) := Aside0.mk ⟨HB3.out.rd, HB3.out.bs.mono (by rw [HS.out]; simp) (by have := HB3.out.bs.len; rw [HS.out]; simp at this ⊢; omega)⟩
          go_roundw
          case rel => exact ⟨j + 1, by go_num, by omega, HE3, HK3⟩
          case measure => simp [intOf]; omega
      · obtain rfl : j = lev := by omega
        have hd : decide ((j : Int) < (j : Int)) = false := decide_eq_false (by omega)
        go_wp2
        go_end0
        exact ⟨_, rfl, HR.out, HK.out⟩
  · have hp0 : (y.px.toList == []) = false := by simpa using hp
    have hp2 : (!(y.px.toList == [])) = true := by rw [hp0]; rfl
    go_enter Tryd.func39, Tryd.ntmps39
    go_wp2_with (go_at_call 41; refine (HB.out.strK _ y7 (by omega)).mono ?_; rintro e w3 ⟨v3, rfl, hb3, hk3⟩; have HB3 := Aside0.mk hb3; have HK0 := Aside0.mk hk3; clear hb3 hk3)
    have HE : Aside0 (RB q qs its y vs Bb W0 (acc ++ y.px.data.toList ++ preL its y vs idx 0) (m + 1000 + 1000 * 0) w3) := Aside0.mk ⟨HB3.out.rd, HB3.out.bs.mono (by simp [preL]) (by have := HB3.out.bs.len; simp [preL] at this ⊢; omega)⟩
    go_loopw [8] (fun i wr => ∃ j : Nat, Value.int .i64 (j : Int) = i ∧ j ≤ lev ∧ Aside0 (RB q qs its y vs Bb W0 (acc ++ y.px.data.toList ++ preL its y vs idx j) (m + 1000 + 1000 * j) wr) ∧ Aside0 (K58 W wr)) (fun i _ => lev - (intOf i).toNat)
    case atStart => exact ⟨0, rfl, by omega, HE, HK0⟩
    case round =>
      obtain ⟨j, rfl, hj, HR, HK⟩ := hrel
      clear c1 c5 s0 s1 s2 s3 s4 s5 s6 s7 s8
      obtain ⟨c1, c5, s0, s1, s2, s3, s4, s5, s6, s7, s8⟩ := HR.out.cells
      by_cases hlt : j < lev
      · have hd : decide ((j : Int) < (lev : Int)) = true := decide_eq_true (by omega)
        have HM := Aside0.mk (more_r HR.out j idx hl hi (by omega))
        have HS := Aside0.mk (preL_succ its y vs idx j)
        cases hb : moreF its j idx with
        | true =>
          rw [hb] at HM HS
          go_wp2_with (first
            | (go_at_call 23; refine HM.out.mono ?_; rintro e w2 ⟨rfl, hw⟩; replace hw := hw.symm; subst hw)
            | (go_at_call 41; refine (HR.out.strK _ y5 (by omega)).mono ?_; rintro e w3 ⟨v3, rfl, hb3, hk3⟩; have HB3 := Aside0.mk hb3; have HK3 := Aside0.mk (HK.out.trans hk3); clear hb3 hk3))
          have HE3 : Aside0 (RB q qs its y vs Bb W0 (acc ++ y.px.data.toList ++ preL its y vs idx (j + 1)) (m + 1000 + 1000 * (j + 1)) w3) := Aside0.mk ⟨HB3.out.rd, HB3.out.bs.mono (by rw [HS.out]; simp) (by have := HB3.out.bs.len; rw [HS.out]; simp at this ⊢; omega)⟩
          go_roundw
          case rel => exact ⟨j + 1, by go_num, by omega, HE3, HK3⟩
          case measure => simp [intOf]; omega
        | false =>
          rw [hb] at HM HS
          go_wp2_with (first
            | (go_at_call 23; refine HM.out.mono ?_; rintro e w2 ⟨rfl, hw⟩; replace hw := hw.symm; subst hw)
            | (go_at_call 41; refine (HR.out.strK _ y8 (by omega)).mono ?_; rintro e w3 ⟨v3, rfl, hb3, hk3⟩; have HB3 := Aside0.mk hb3; have HK3 := Aside0.mk (HK.out.trans hk3); clear hb3 hk3))
          have HE3 : Aside0 (RB q qs its y vs Bb W0 (acc ++ y.px.data.toList ++ preL its y vs idx (j + 1)) (m + 1000 + 1000 * (j + 1)) w3) := Aside0.mk ⟨HB3.out.rd, HB3.out.bs.mono (by rw [HS.out]; simp) (by have := HB3.out.bs.len; rw [HS.out]; simp at this ⊢; omega)⟩
          go_roundw
          case rel => exact ⟨j + 1, by go_num, by omega, HE3, HK3⟩
          case measure => simp [intOf]; omega
      · obtain rfl : j = lev := by omega
        have hd : decide ((j : Int) < (j : Int)) = false := decide_eq_false (by omega)
        go_wp2
        go_end0
        exact ⟨_, rfl, HR.out, HK.out⟩
end
end Go.Proofs.YtemcjnminnnefaaDoor.LstG
