/-
  Proved: initForRenderPaddedColumns grows the columns in turn, where no column has a most. Conditions: 1 to 40 columns, numbers up to 3000.
-/
import Derived.Test.YtapbnbinoakbhaaZWid
import Derived.Test.YtapbnbinoakbhaaGrowP
namespace Go.Proofs.Ytapbnbinoakbhaa.ZPad
open Go.RowKit Go.Proofs.YtapbnbinoakbhaaW.PrintWords Go.Proofs.Ytapbnbinoakbhaa.Common Go.Proofs.Ytapbnbinoakbhaa.SlcQ Go.Proofs.Ytapbnbinoakbhaa.SlcA Go.Proofs.Ytapbnbinoakbhaa.ZCol Go.Proofs.Ytapbnbinoakbhaa.ZReg Go.Proofs.Ytapbnbinoakbhaa.IMap Go.Proofs.Ytapbnbinoakbhaa.ZWid Go.Proofs.Ytapbnbinoakbhaa.GrowP
set_option linter.unusedVariables false
set_option linter.unusedSimpArgs false
set_option maxRecDepth 1000000

structure ZG (W0 : World) (base bt bs mr n : Nat) (g kb : Nat) (least len : Int) (xs : List Int) (w : World) : Prop where
  tb : ∃ T, w.heap[bt]? = some (.cells T 153 (0, 0)) ∧ T[14]? = some (.int .i64 (n : Int)) ∧ T[11]? = some (.slice (some ⟨g, 0, none⟩) n kb) ∧ T[6]? = some (.map (some mr)) ∧ T[13]? = some (.int .i64 len) ∧ T[39]? = some (.pointer (some ⟨bs, 0, none⟩))
  sb : ∃ S, w.heap[bs]? = some (.cells S 108 (0, 0)) ∧ S[52]? = some (.int .i64 least)
  map : imap w .i64 mr (mapF (fun _ => false) n)
  row : Own w base (.slice (some ⟨g, 0, none⟩) n kb) xs
  len : xs.length = n
  below : Below base W0 w
theorem ZG.on {W0 : World} {base bt bs mr n g kb : Nat} {least len : Int} {xs : List Int} {w w' : World} (h : ZG W0 base bt bs mr n g kb least len xs w) (hb : Below w.heap.size w w') (hbase : base ≤ w.heap.size) : ZG W0 base bt bs mr n g kb least len xs w' := by
  obtain ⟨T, h1, r⟩ := h.tb
  obtain ⟨S, h2, r2⟩ := h.sb
  exact ⟨⟨T, (hb.block _ (Array.getElem?_eq_some_iff.1 h1).1).trans h1, r⟩, ⟨S, (hb.block _ (Array.getElem?_eq_some_iff.1 h2).1).trans h2, r2⟩, imap_below h.map hb (imap_lt h.map), pw_own_below h.row hb, h.len, h.below.trans (hb.mono hbase)⟩
theorem ZG.set {W0 : World} {base bt bs mr n g kb : Nat} {least len : Int} {xs : List Int} {w : World} (h : ZG W0 base bt bs mr n g kb least len xs w) (j : Nat) (hj : j < n) (x : Int) :
    w.cell? ⟨g, j, none⟩ = some (.int .i64 (rd xs j)) ∧ w.frozen? ⟨g, j, none⟩ = false ∧ ZG W0 base bt bs mr n g kb least len (xs.set j x) (w.setCell ⟨g, j, none⟩ (.int .i64 x)) := by
  have hrow := h.row
  unfold Own at hrow
  rw [h.len] at hrow
  have ha := own_at hrow (j : Int) (by omega) (by omega)
  have hs := own_store hrow (j : Int) x
  simp only [Int.toNat_natCast] at ha hs
  obtain ⟨T, h1, r⟩ := h.tb
  obtain ⟨S, h2, r2⟩ := h.sb
  obtain ⟨cs, hty⟩ := own_typed hrow g rfl
  have n1 := type_ne h1 hty (by decide)
  have n2 := type_ne h2 hty (by decide)
  have n3 : mr ≠ g := fun e => by
    subst e
    obtain ⟨es, ck, hm, _⟩ := h.map
    rw [hty] at hm
    cases hm
  refine ⟨ha.1, ha.2, ⟨⟨T, (set_block w g j _ _ n1).trans h1, r⟩, ⟨S, (set_block w g j _ _ n2).trans h2, r2⟩, imap_setCell h.map _ (Ne.symm n3) _, ?_, by rw [List.length_set]; exact h.len, h.below.setCell (own_base hrow g rfl) _⟩⟩
  unfold Own
  rw [List.length_set, h.len]
  exact hs.1
theorem ZG.cells {W0 : World} {base bt bs mr n g kb : Nat} {least len : Int} {xs : List Int} {w : World} (h : ZG W0 base bt bs mr n g kb least len xs w) :
    w.cell? ⟨bt, 14, none⟩ = some (.int .i64 (n : Int)) ∧ w.cell? ⟨bt, 11, none⟩ = some (.slice (some ⟨g, 0, none⟩) n kb) ∧ w.cell? ⟨bt, 6, none⟩ = some (.map (some mr)) ∧ w.cell? ⟨bt, 13, none⟩ = some (.int .i64 len) ∧ w.cell? ⟨bt, 39, none⟩ = some (.pointer (some ⟨bs, 0, none⟩)) ∧ w.cell? ⟨bs, 52, none⟩ = some (.int .i64 least) := by
  obtain ⟨T, h1, a, b, c, d, e⟩ := h.tb
  obtain ⟨S, h2, f⟩ := h.sb
  exact ⟨(cell_of_row _ _ _ _ _ _ h1).trans a, (cell_of_row _ _ _ _ _ _ h1).trans b, (cell_of_row _ _ _ _ _ _ h1).trans c, (cell_of_row _ _ _ _ _ _ h1).trans d, (cell_of_row _ _ _ _ _ _ h1).trans e, (cell_of_row _ _ _ _ _ _ h2).trans f⟩
theorem rd_L (q i : Nat) (l : List Int) (h : i < l.length) : rd (L q i l) (i : Int) = l[i] + q := by
  rw [rd_at _ _ (by rw [L_len]; exact h), L_at _ _ _ _ h, if_neg (by omega)]
  omega
theorem mul_le (q n p j r : Nat) (hn : 0 < n) (h : q * n + j + r = p) : q ≤ p := by
  have := Nat.le_mul_of_pos_right q hn
  omega
set_option maxHeartbeats 8000000 in
theorem pad_c (W0 : World) (base bt bs mr n g kb : Nat) (least len : Int) (l : List Int) (w : World) (H : ZG W0 base bt bs mr n g kb least len l w) (hb0 : base ≤ W0.heap.size) (hn : 0 < n) (hn40 : n ≤ 40) (hl : ∀ x ∈ l, 0 ≤ x ∧ x ≤ 300) (h1 : 0 ≤ least ∧ least ≤ 3000) (h2 : 0 ≤ len ∧ len ≤ 3000) :
    Calls Try.prog 62 #[.pointer (some ⟨bt, 0, none⟩)] w fun e w' => e = .returned (.tuple #[]) ∧ ZG W0 base bt bs mr n g kb least len (grow l (least - len).toNat) w' := by
  obtain ⟨k14, k11, k6, k13, k39, ks⟩ := H.cells
  have HH := Aside0.mk (H.on (below_drew1 (Below.refl _ _)) (Nat.le_trans hb0 H.below.size))
  have HLL : Aside0 (l.length = n) := ⟨H.len⟩
  have HL := Aside0.mk hl
  clear H hl
  by_cases hp : least - len ≤ 0
  · have hsub : IntKind.i64.wrap (least - len) = least - len := IntWalk.i64_in _ (by omega)
    have hp0 : ¬ 0 < least - len := by omega
    have HE : Aside0 (ZG W0 base bt bs mr n g kb least len (grow l (least - len).toNat) w.drew) := ⟨by
      rw [show (least - len).toNat = 0 by omega, grow_of l 0 0 0 (by rw [HLL.out]; exact hn) (Nat.zero_le _) (by simp), L_zero]
      exact HH.out⟩
    clear HH
    go_enter Try.func62, Try.ntmps62
    go_wp2
    go_region
    all_goals go_wp2
    all_goals (refine wp_loop_rounds 1 ?_)
    all_goals (rw [rounds_succ])
    all_goals go_wp2
    all_goals go_end0
    all_goals exact ⟨rfl, HE.out⟩
  · obtain ⟨p, hpe⟩ : ∃ p : Nat, least - len = (p : Int) := ⟨(least - len).toNat, by omega⟩
    have hsub : IntKind.i64.wrap (least - len) = (p : Int) := by rw [IntWalk.i64_in _ (by omega), hpe]
    have hp3 : p ≤ 3000 := by omega
    have HPE : Aside0 ((least - len).toNat = p) := ⟨by omega⟩
    rw [HPE.out]
    clear hpe hp
    go_enter Try.func62, Try.ntmps62
    go_wp2
    go_region
    all_goals go_wp2
    go_loopw [2] (fun v wr => ∃ (q j rem : Nat), Value.int .i64 (rem : Int) = v ∧ q * n + j + rem = p ∧ (j = 0 ∨ rem = 0) ∧ j ≤ n ∧ Aside0 (ZG W0 base bt bs mr n g kb least len (L q j l) wr)) (fun v _ => (intOf v).toNat)
    case atStart => exact ⟨0, 0, p, rfl, by simp, .inl rfl, Nat.zero_le _, ⟨by rw [L_zero]; exact HH.out⟩⟩
    case round =>
      obtain ⟨q, j, rem, rfl, hqj, hor, hjn, HR⟩ := hrel
      clear HH k14 k11 k6 k13 k39 ks
      by_cases hrem : 0 < rem
      · obtain rfl : j = 0 := by omega
        have HQ := Aside0.mk hqj
        have hq3 : q ≤ 3000 := Nat.le_trans (mul_le q n p 0 rem hn hqj) hp3
        have hrp : rem ≤ 3000 := by omega
        clear hqj hor
        go_wp2
        go_loopw [2, 3, 4] (fun v2 v3 v4 wi => ∃ (i r2 : Nat), Value.int .i64 (r2 : Int) = v2 ∧ Value.int .i64 (i : Int) = v3 ∧ Value.int .i64 (i : Int) = v4 ∧ i + r2 = rem ∧ i ≤ n ∧ Aside0 (ZG W0 base bt bs mr n g kb least len (L q i l) wi)) (fun _ _ v4 _ => n - (intOf v4).toNat)
        case atStart => exact ⟨0, rem, rfl, rfl, rfl, by omega, by omega, HR⟩
        case round =>
          obtain ⟨i, r2, rfl, rfl, rfl, hir, hin, HI⟩ := hrel
          clear HR
          have k14 := HI.out.cells.1
          by_cases hr2 : 0 < r2
          · by_cases hlt : i < n
            · have C := Aside0.mk (wmax_c n (i : Int) bt mr _ (WalkArith.wf_i64 (by omega)) HI.out.cells.2.2.1 HI.out.map)
              obtain ⟨y, hy⟩ : ∃ y, y = rd (L q i l) (i : Int) := ⟨_, rfl⟩
              have hil : i < l.length := by rw [HLL.out]; exact hlt
              have hyv : y = l[i] + q := by rw [hy, rd_L q i l hil]
              have hyb : 0 ≤ y ∧ y ≤ 4000 := by have := HL.out _ (List.getElem_mem hil); omega
              have hst := L_set q i l hil
              rw [← hyv] at hst
              have HST := Aside0.mk hst
              have HY := Aside0.mk hy
              have HBS : Aside0 (base ≤ _) := ⟨Nat.le_trans hb0 HI.out.below.size⟩
              obtain ⟨hy0, hy1⟩ := hyb
              clear hst hyv hy
              go_wp2_with (go_at_call 75; refine C.out.mono ?_; rintro e w1 ⟨rfl, hb⟩; have HZ1 := HI.out.on hb HBS.out; have q11 := HZ1.cells.2.1; have hcs := HZ1.set i hlt (y + 1); rw [← HY.out, HST.out] at hcs; obtain ⟨hc, hf, hz⟩ := hcs; have HZ2 := Aside0.mk hz; clear hb hz HZ1)
              go_roundw
              case rel => exact ⟨i + 1, r2 - 1, by go_num, by go_num, by go_num, by omega, by omega, HZ2⟩
              case measure => simp [intOf]; omega
            · obtain rfl : i = n := by omega
              have hi0 : ¬ (i : Int) = 0 := by omega
              have HN : Aside0 (ZG W0 base bt bs mr i g kb least len (L (q + 1) 0 l) _) := ⟨by rw [← L_round, HLL.out]; exact HI.out⟩
              have HQ2 : Aside0 ((q + 1) * i + 0 + r2 = p) := ⟨by have := HQ.out; rw [Nat.add_mul, Nat.one_mul]; omega⟩
              go_wp2
              go_roundw
              case rel => exact ⟨q + 1, 0, r2, rfl, HQ2.out, .inl rfl, Nat.zero_le _, HN⟩
              case measure => simp [intOf]; omega
          · obtain rfl : r2 = 0 := by omega
            have hi0 : ¬ (i : Int) = 0 := by omega
            have HQ2 : Aside0 (q * n + i + 0 = p) := ⟨by have := HQ.out; omega⟩
            go_wp2
            go_roundw
            case rel => exact ⟨q, i, 0, rfl, HQ2.out, .inr rfl, hin, HI⟩
            case measure => simp [intOf]; omega
      · obtain rfl : rem = 0 := by omega
        have HE : Aside0 (ZG W0 base bt bs mr n g kb least len (grow l p) wr) := ⟨by
          rw [grow_of l q j p (by rw [HLL.out]; exact hn) (by rw [HLL.out]; exact hjn) (by rw [HLL.out]; omega)]
          exact HR.out⟩
        clear HR
        go_wp2
        go_end0
        exact ⟨rfl, HE.out⟩
end Go.Proofs.Ytapbnbinoakbhaa.ZPad
