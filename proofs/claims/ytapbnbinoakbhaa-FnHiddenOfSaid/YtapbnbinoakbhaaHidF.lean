/-
  Proved: what table.ZzHide returns. Conditions: at most 100 rows of at most 2147483647 cells, at most 100 configs.
-/
import Derived.Test.YtapbnbinoakbhaaHidE
import Derived.Outline
namespace Go.Proofs.Ytapbnbinoakbhaa.HidF
open Go.RowKit Go.Proofs.YtapbnbinoakbhaaW.PrintWords Go.Proofs.Ytapbnbinoakbhaa.Common Go.Proofs.Ytapbnbinoakbhaa.SlcQ Go.Proofs.Ytapbnbinoakbhaa.ZCol Go.Proofs.Ytapbnbinoakbhaa.ZReg Go.Proofs.Ytapbnbinoakbhaa.ZWid Go.Proofs.Ytapbnbinoakbhaa.IMap Go.Proofs.Ytapbnbinoakbhaa.GEZ Go.Proofs.Ytapbnbinoakbhaa.HidB Go.Proofs.Ytapbnbinoakbhaa.HidC Go.Proofs.Ytapbnbinoakbhaa.HidD Go.Proofs.Ytapbnbinoakbhaa.HidT
set_option linter.unusedVariables false
set_option linter.unusedSimpArgs false
set_option maxRecDepth 1000000

theorem rows_go (l : List (List ByteArray)) (hl : l.length ≤ 100) : ∀ (d i k : Nat), i + d = l.length → d < k → table_zzRows.l0 k (l.take i) l (l.length : Int) (i : Int) = some l
  | 0, i, k, h, hk => by
    obtain ⟨k, rfl⟩ : ∃ m, k = m + 1 := ⟨k - 1, by omega⟩
    simp only [table_zzRows.l0]
    rw [if_neg (by omega), List.take_of_length_le (by omega)]
  | d + 1, i, k, h, hk => by
    obtain ⟨k, rfl⟩ : ∃ m, k = m + 1 := ⟨k - 1, by omega⟩
    have hi : i < l.length := by omega
    have ih := rows_go l hl d (i + 1) k (by omega) (by omega)
    simp only [table_zzRows.l0]
    rw [if_pos (by omega), if_pos (by omega), if_pos (by omega), if_pos (by rw [List.length_take]; omega)]
    have e : wrap64 ((i : Int) + 1) = ((i + 1 : Nat) : Int) := by unfold wrap64; omega
    have e2 : l.take i ++ [rd_L1 l (i : Int)] = l.take (i + 1) := by
      rw [List.take_succ_eq_append_getElem hi]
      congr 1
      simp [rd_L1, List.getD_eq_getElem?_getD, List.getElem?_eq_getElem hi]
    rw [e, e2]
    exact ih
theorem rows_f (l : List (List ByteArray)) (hl : l.length ≤ 100) : table_zzRows.f (l.length + 1) l = some l := by
  have := rows_go l hl l.length 0 (l.length + 1) (by omega) (by omega)
  simpa [table_zzRows.f] using this
theorem ci_nil (w : World) : CI w none [] := Kd.C_nil _ w
structure AtHide (w : World) (bt mr : Nat) (hs : Nat → Bool) (m : Nat) (A1 : Option Addr) (c1 : Nat) (l0 : List (List ByteArray)) (w3 : World) : Prop where
  tb : ∃ T : Array Value, w3.heap[bt]? = some (.cells T 153 (0, 0)) ∧ T[6]? = some (.map (some mr)) ∧ T[20]? = some (.slice A1 l0.length c1) ∧ T[25]? = some (.slice none 0 0) ∧ T[28]? = some (.slice none 0 0) ∧ (∃ u, T[14]? = some u)
  map : imap w3 .i64 mr (mapF hs m)
  lbt : w.heap.size ≤ bt
  bel : Below w.heap.size w w3
  foot : Kd.F RS w3 (fun k => k < w3.heap.size) A1 l0.length l0
theorem to_hide {w w1 w2 : World} {S : Array Value} {bt mr : Nat} {B : Option Addr} {kb : Nat} {D : Option Addr} {kd : Nat} {hs : Nat → Bool} {m : Nat} {A1 : Option Addr} {c1 : Nat} {l0 : List (List ByteArray)} (hz : Z1 w S [] bt mr B kb D kd (mapF hs m) w1)
    (hN : Kd.N RS 162 w2 w1.heap.size (fun k => k < w.heap.size ∨ w1.heap.size ≤ k) (.slice A1 l0.length c1) l0) (hb : Below w1.heap.size w1 w2) :
    w2.cell? ⟨bt, 20, none⟩ = some (.slice none 0 0) ∧ w2.frozen? ⟨bt, 20, none⟩ = false ∧ AtHide w bt mr hs m A1 c1 l0 (w2.setCell ⟨bt, 20, none⟩ (.slice A1 l0.length c1)) := by
  obtain ⟨T, ht, hT⟩ := hz.tbl
  have hlt := (Array.getElem?_eq_some_iff.1 hT).1
  have h2 := (hb.block _ hlt).trans hT
  have g : ∀ k y, k ≠ 20 → T[k]? = some y → (T.setIfInBounds 20 (.slice A1 l0.length c1))[k]? = some y := fun k y hk hy => by
    rw [Array.getElem?_setIfInBounds, if_neg (Ne.symm hk)]; exact hy
  have hm2 := imap_below hz.map hb (imap_lt hz.map)
  refine ⟨(cell_of_row _ _ _ _ _ _ h2).trans ht.f20, by simp [World.frozen?, h2], ⟨⟨T.setIfInBounds 20 (.slice A1 l0.length c1), by simp [World.setCell, Array.getElem?_modify, h2], g 6 _ (by decide) ht.f6, ?_, g 25 _ (by decide) ht.f25, g 28 _ (by decide) ht.f28, ⟨_, g 14 _ (by decide) ht.f14⟩⟩, imap_setCell hm2 _ (not_map h2 hm2) _, hz.lbt, (hz.below.trans (hb.mono hz.below.size)).setCell hz.lbt _, ?_⟩⟩
  · rw [Array.getElem?_setIfInBounds, if_pos rfl, if_pos (Array.getElem?_eq_some_iff.1 ht.f20).1]
  · have hF := Kd.F_bound (Kd.N_F hN)
    have hF2 := Kd.F_far hF (p := ⟨bt, 20, none⟩) (fun k hk => by
      have := hz.lbt
      show k ≠ bt
      rcases hk.1 with h | h <;> omega) (.slice A1 l0.length c1)
    exact Kd.F_mono hF2 (fun k hk => by rw [World.size_setCell]; exact hk.2)
theorem C3 {w w3 : World} {bt mr m : Nat} {hs : Nat → Bool} {A1 : Option Addr} {c1 : Nat} {l0 : List (List ByteArray)} (hr : ∀ i : Nat, (rd_L1 l0 (i : Int)).length ≤ 2147483647) (hl : l0.length ≤ 100) (h : AtHide w bt mr hs m A1 c1 l0 w3) :
    Calls Try.prog 64 #[.pointer (some ⟨bt, 0, none⟩)] w3 fun e w' => ∃ u, e = .returned u ∧ ∃ A c, Kd.S RS 162 w' w.heap.size (fun _ => True) (.slice A (rowsTo (hdn hs m) l0 l0.length).length c) (rowsTo (hdn hs m) l0 l0.length) ∧ w'.cell? ⟨bt, 20, none⟩ = some (.slice A (rowsTo (hdn hs m) l0 l0.length).length c) ∧ w'.cell? ⟨bt, 14, none⟩ = some (.int .i64 (numTo (hdn hs m) l0 0 l0.length : Nat)) ∧ Below w.heap.size w w' := by
  obtain ⟨T, t0, t6, t20, t25, t28, t14⟩ := h.tb
  refine (HidE.cols_c w.heap.size w w3 bt mr hs m T A1 c1 l0 _ t0 t6 t20 t25 t28 t14 h.map h.bel.size h.lbt h.bel h.foot (fun _ h => h) hl hr).mono ?_
  rintro e w' ⟨u, rfl, A, c, hS, r⟩
  exact ⟨u, rfl, A, c, Kd.S_lower hS h.bel.size, r⟩
set_option maxHeartbeats 4000000 in
theorem hide_c (A0 Ac : Option Addr) (c0 cc g m : Nat) (l0 : List (List ByteArray)) (hs : Nat → Bool) (w : World) (hr0 : Kd.C RS w A0 l0.length l0) (hc0 : l0.length ≤ c0) (hl : l0.length ≤ 100) (hm : m ≤ 100) (hr : ∀ i : Nat, (rd_L1 l0 (i : Int)).length ≤ 2147483647) (hAc : 0 < m → Ac = some ⟨g, 0, none⟩) (hcf : ∀ j t u, j < m → (cfgV (hs j))[t]? = some u → w.cell? ⟨g, j * 16 + t, none⟩ = some u) :
    Calls Try.prog 40 #[.slice A0 l0.length c0, .slice Ac m cc] w fun e w' => ∃ v, e = .returned (.tuple #[v, .int .i64 (numTo (hdn hs m) l0 0 l0.length : Nat)]) ∧ Kd.S RS 109 w' w.heap.size (fun _ => True) v (rowsTo (hdn hs m) l0 l0.length) ∧ Below w.heap.size w w' := by
  have C := fun S => Aside0.mk (ZReg.cols_c none 0 [] Ac m cc S w (by decide) (ci_nil w) hs (by omega) g hAc hcf)
  have hF := Kd.C_F (Kd.heap_slice 9 Kd.heap_string) hr0
  have C2 : ∀ w1, Below w.heap.size w w1 → Aside0 (Calls Try.prog 63 #[.slice A0 l0.length c0] w1 fun e w' => ∃ v0_ : Value, e = .returned (v0_) ∧ Kd.N RS 162 w' w1.heap.size (fun k_ => (k_ < w.heap.size ∨ w1.heap.size ≤ k_)) v0_ l0 ∧ Below w1.heap.size w1 w') := fun w1 hb => ⟨table_zzRows.calls (l0.length + 1) (fun k => k < w.heap.size) A0 c0 l0 l0 w1 (Kd.V_mk hc0 (Kd.F_step hF (fun k _ hlt => hb.block k hlt))) (rows_f l0 hl)⟩
  have HRL := Aside0.mk hr
  clear hr0 hcf hAc hF hr
  go_enter Try.func40, Try.ntmps40
  go_wp2_with (first
    | (go_at_call 61; refine (C _).out.mono ?_; rintro e w1 ⟨bt, mr, B, kb, D, kd, rfl, hZ⟩; have HZ := Aside0.mk hZ; clear hZ)
    | (go_at_call 63; refine (C2 _ HZ.out.below).out.mono ?_; rintro e w2 ⟨v, rfl, hN, hb⟩; obtain ⟨A1, c1, rfl⟩ := Kd.N_slice hN; obtain ⟨k1, k2, k3⟩ := to_hide HZ.out hN hb; have HA := Aside0.mk k3; clear k3 hN hb)
    | (go_at_call 64; refine (C3 HRL.out hl HA.out).mono ?_; rintro e w4 ⟨u, rfl, A2, c2, hS, k4, k5, hb⟩; have HS := Aside0.mk (And.intro hS hb); clear hS hb))
  go_region_held3 (fun w' => w'.cell? ⟨bt, 20, none⟩ = some (.slice A2 (rowsTo (hdn hs m) l0 l0.length).length c2) ∧ w'.cell? ⟨bt, 14, none⟩ = some (.int .i64 (numTo (hdn hs m) l0 0 l0.length : Nat))) (first | exact ⟨k4, k5⟩ | exact ⟨k6, k7⟩) (first | (go_at_call 65; refine (texts_c _ _ _ _ _ _ (Kd.S_drew HS.out.1) HS.out.2.size (by rw [rowsTo_len]; exact hl)).mono ?_; rintro e w5 ⟨v, rfl, hS2, hb2⟩; have k6 := pw_cell_below hb2 (show w4.drew.cell? _ = _ from k4); have k7 := pw_cell_below hb2 (show w4.drew.cell? _ = _ from k5); have HE := Aside0.mk (And.intro hS2 hb2); clear hS2 hb2))
  go_wp2
  go_ret2
  exact ⟨_, rfl, HE.out.1, HS.out.2.trans ((below_drew1 (Below.refl _ _)).trans HE.out.2 |>.mono HS.out.2.size)⟩
end Go.Proofs.Ytapbnbinoakbhaa.HidF
