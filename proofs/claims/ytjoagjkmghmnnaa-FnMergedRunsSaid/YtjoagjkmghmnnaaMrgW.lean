/-
  Proved: what table.getMergedColumnIndices leaves in its map: the walk. Conditions: at most 100 cells, 0 to 200 columns.
-/
import Derived.Test.YtjoagjkmghmnnaaMrgP
import Derived.Test.YtjoagjkmghmnnaaCommon
import Derived.Test.YtjoagjkmghmnnaaWMore
import Derived.Test.YtjoagjkmghmnnaaProg
import Derived.WalkKit
import Derived.BigCall
import Derived.Carry
import Derived.Deep.LoopGhost
import Derived.Deep.QuietTactic
import Derived.BigQuiet
import Derived.RegionTactic
import Derived.BigRegion
namespace Go.Proofs.Ytjoagjkmghmnnaa.MrgW
open Go.RowKit Go.Proofs.YtjoagjkmghmnnaaW.PrintWords Go.Proofs.YtjoagjkmghmnnaaW.PrintLast Go.Proofs.Ytjoagjkmghmnnaa.Common Go.Proofs.Ytjoagjkmghmnnaa.IMap Go.Proofs.Ytjoagjkmghmnnaa.MrgP
set_option linter.unusedVariables false
set_option linter.unusedSimpArgs false

theorem zero138 (w : World) : (zeroValue 138).run Try.prog w = .ok (.agg #[.bool false, .int .i64 0]) w := by kernel_rfl
def hint1 : Value := .agg #[.bool false, .bool false, .bool false, .bool false, .bool false, .bool false, .bool false, .bool false, .bool false, .bool false, .bool false, .int .i64 0, .int .i64 1, .int .i64 0]
def cfg : Value := .agg #[.bool true, .int .i64 0]
set_option maxHeartbeats 2000000 in
set_option maxRecDepth 100000 in
theorem config_c (bt bm : Nat) (f : Int → Option Value) (W : World) (ht : W.cell? ⟨bt, 22, none⟩ = some (.map (some bm))) (hm : imap W .i64 bm f) (hf : f 0 = some cfg) :
    Calls Try.prog 120 #[.pointer (some ⟨bt, 0, none⟩), hint1] W fun e w' => e = .returned cfg ∧ Below W.heap.size W w' := by
  have HM := Aside0.mk hm
  have HF := Aside0.mk hf
  have hbt : bt < W.heap.size := World.block_lt_of_cell? W _ ht
  clear hm hf
  unfold hint1
  go_enter Try.func120, Try.ntmps120
  go_wp2_with (at_lookup; refine wp_lookup rfl _ _ false rfl Try.underlying139 Try.underlying3 _ (zero138 _) rfl (imap_alloc (imap_alloc HM.out _) _) 0 rfl (by decide) ?_; rw [HF.out]; unfold cfg)
  refine bodyPost_ret (v := .agg #[.bool true, .int .i64 0]) (by simp [results, Try.results120, go_sem]) rfl ⟨rfl, ?_⟩
  exact below_alloc (below_alloc (Below.refl _ _) _) _
theorem cell_in {k : Nat} {W0 W : World} {A : Option Addr} {cells : List ByteArray} {x : ByteArray} (hr : Kd.C Kd.string W0 A cells.length cells) (hb : Below W0.heap.size W0 W) (hx : cells[k]? = some x) :
    ∃ ad : Addr, A = some ad ∧ W.cell? (ad.add k) = some (.string x) := by
  have hlt := (List.getElem?_eq_some_iff.1 hx).1
  have h := Kd.reads_of_C (enc := Value.string) (d := ByteArray.empty) (h1 := fun _ => rfl) hr
  obtain ⟨ad, he, hc⟩ := h.2.2 (by omega)
  have hc2 := hc k hlt
  rw [List.getD_eq_getElem?_getD, hx] at hc2
  exact ⟨ad, he, pw_cell_below hb hc2⟩
theorem chain {cells : List ByteArray} {j o : Nat} (h : ∀ i, j ≤ i → i + 1 < o → cells[i]? = cells[i + 1]?) : ∀ d, j + d < o → cells[j + d]? = cells[j]?
  | 0, _ => rfl
  | d + 1, hd => by
    have ih := chain h d (by omega)
    rw [← ih, h (j + d) (by omega) (by omega)]
    rfl
theorem eq_ext {cells : List ByteArray} {j o : Nat} {x : ByteArray} (h : ∀ i, j ≤ i → i + 1 < o → cells[i]? = cells[i + 1]?) (hj : cells[j]? = some x) (ho : cells[o]? = some x) (hlt : j < o) : ∀ i, j ≤ i → i < o → cells[i]? = cells[i + 1]? := by
  intro i h1 h2
  by_cases hio : i + 1 < o
  · exact h i h1 hio
  · obtain rfl : o = i + 1 := by omega
    have := chain h (i - j) (by omega)
    rw [show j + (i - j) = i by omega] at this
    rw [this, hj, ho]
/-- what the call leaves -/
def Post (cells : List ByteArray) (bound : Int) (w : World) (e : Ending) (w' : World) : Prop :=
  ∃ (b c : Nat) (L : List (Nat × Nat)), e = .returned (.map (some b)) ∧ w.heap.size ≤ b ∧ bound ≤ (c : Int) ∧ Inv cells bound c L ∧ imap w' .i64 b (MrgP.look L) ∧ Below w.heap.size w w'
/-- inside the inner loop -/
def In (cells : List ByteArray) (bound : Int) (c j o : Nat) (L L' : List (Nat × Nat)) : Prop :=
  (j = c ∧ L' = L ∧ c < o ∧ (o < cells.length ∨ o = c + 1) ∧ ∀ i, c ≤ i → i + 1 < o → cells[i]? = cells[i + 1]?) ∨ (o = cells.length ∧ j + 1 = o ∧ c < j ∧ L' = L ++ [(c, j)] ∧ ∀ i, c ≤ i → i < j → cells[i]? = cells[i + 1]?)
set_option maxHeartbeats 8000000 in
set_option maxRecDepth 1000000 in
theorem merged_c (bt bm : Nat) (f : Int → Option Value) (A : Option Addr) (cp : Nat) (cells : List ByteArray) (columns : Int) (W : World) (ht : W.cell? ⟨bt, 22, none⟩ = some (.map (some bm))) (ht14 : W.cell? ⟨bt, 14, none⟩ = some (.int .i64 columns)) (hm : imap W .i64 bm f) (hf : f 0 = some cfg)
    (hr : Kd.C Kd.string W A cells.length cells) (hcp : cells.length ≤ cp) (hl : cells.length ≤ 100) (hc0 : 0 ≤ columns) (hc1 : columns ≤ 200) :
    Calls Try.prog 83 #[.pointer (some ⟨bt, 0, none⟩), .slice A cells.length cp, hint1] W (Post cells (columns - 1) W) := by
  have hbt : bt < W.heap.size := World.block_lt_of_cell? W _ ht14
  have hbm := imap_lt hm
  have HM := Aside0.mk hm
  have HF := Aside0.mk hf
  have HT := Aside0.mk ht
  have HT14 := Aside0.mk ht14
  have HR := Aside0.mk hr
  clear hm hf ht hr ht14
  have RC : Aside0 (∀ W', Below W.heap.size W W' → Calls Try.prog 120 #[.pointer (some ⟨bt, 0, none⟩), hint1] W' fun e w' => e = .returned (.agg #[.bool true, .int .i64 0]) ∧ Below W'.heap.size W' w') :=
    ⟨fun W' hb => config_c bt bm f W' ((hb.cell (p := ⟨bt, 22, none⟩) hbt).trans HT.out) (imap_below HM.out hb hbm) HF.out⟩
  unfold hint1 at *
  have hfld : ∀ w : World, (Instr.field 138 (.agg #[.bool true, .int .i64 0]) 0).run Try.prog w = .ok (.bool true) w := fun _ => by kernel_rfl
  have hmm := @run_makeMap Try.prog
  go_enter Try.func83, Try.ntmps83
  go_wp2_with (go_at_call 120; refine (RC.out _ ((Below.refl _ _).alloc (Nat.le_refl _) _)).mono ?_; rintro e w1 ⟨rfl, hb⟩; have HB1 := Aside0.mk (below_step ((Below.refl _ W).alloc (Nat.le_refl _) _) hb); clear hb)
  obtain ⟨b, hb⟩ : ∃ b, b = w1.heap.size := ⟨_, rfl⟩
  have hWb : W.heap.size ≤ b := by rw [hb]; exact HB1.out.size
  have HI0 : Aside0 (imap (w1.alloc (.map #[] 0)) .i64 b (MrgP.look [])) := ⟨by rw [hb]; exact imap_made w1 .i64⟩
  have HBL0 : Aside0 (Below W.heap.size W (w1.alloc (.map #[] 0))) := ⟨below_alloc HB1.out _⟩
  rw [← hb]
  obtain ⟨w2, hw2⟩ : ∃ w2, w2 = w1.alloc (.map #[] 0) := ⟨_, rfl⟩
  rw [← hw2] at HI0 HBL0 ⊢
  clear hw2 HB1 RC HM HF hmm hfld hb
  go_loopw [8] (fun v wr => ∃ (k : Nat) (L : List (Nat × Nat)), Value.int .i64 (k : Int) = v ∧ k ≤ 300 ∧ Aside0 (Inv cells (columns - 1) k L) ∧ Aside0 (imap wr .i64 b (MrgP.look L)) ∧ Aside0 (Below W.heap.size W wr)) (fun v _ => 500 - (intOf v).toNat)
  case atStart => exact ⟨0, [], rfl, by omega, ⟨inv_start _ _⟩, HI0, HBL0⟩
  case round =>
    obtain ⟨c, L, rfl, hk, HV, HI, HBL⟩ := hrel
    have ht14 := (HBL.out.cell (p := ⟨bt, 14, none⟩) hbt).trans HT14.out
    by_cases hlt : (c : Int) < columns - 1
    · obtain ⟨wo, hwo⟩ : ∃ wo, wo = wr := ⟨_, rfl⟩
      subst hwo
      go_wp2
      clear ht14
      go_loopw [8, 9] (fun v u wi => ∃ (j o : Nat) (L' : List (Nat × Nat)), Value.int .i64 (j : Int) = v ∧ Value.int .i64 (o : Int) = u ∧ c ≤ j ∧ j ≤ 300 ∧ o ≤ 301 ∧ Aside0 (In cells (columns - 1) c j o L L') ∧ Aside0 (imap wi .i64 b (MrgP.look L')) ∧ Aside0 (Below W.heap.size W wi)) (fun _ u _ => 500 - (intOf u).toNat)
      case atStart => exact ⟨c, c + 1, L, rfl, by go_num, Nat.le_refl _, hk, by omega, ⟨.inl ⟨rfl, rfl, by omega, .inr rfl, fun i h1 h2 => by omega⟩⟩, HI, HBL⟩
      case round =>
        obtain ⟨j, o, L', rfl, rfl, hcj, hj, ho, HN, HI2, HB2⟩ := hrel
        by_cases hol : o < cells.length
        · obtain ⟨rfl, rfl, hco, _, hall⟩ : j = c ∧ L' = L ∧ c < o ∧ (o < cells.length ∨ o = c + 1) ∧ ∀ i, c ≤ i → i + 1 < o → cells[i]? = cells[i + 1]? := by
            rcases HN.out with h | ⟨h, _⟩
            · exact h
            · omega
          obtain ⟨x, hx⟩ : ∃ x, cells[j]? = some x := ⟨_, List.getElem?_eq_getElem (by omega)⟩
          obtain ⟨y, hy⟩ : ∃ y, cells[o]? = some y := ⟨_, List.getElem?_eq_getElem hol⟩
          obtain ⟨ad, rfl, hcx⟩ := cell_in HR.out HB2.out hx
          obtain ⟨ad2, e2, hcy⟩ := cell_in HR.out HB2.out hy
          cases e2
          have HX := Aside0.mk hx
          have HY := Aside0.mk hy
          have HALL := Aside0.mk hall
          clear hx hy hall HN
          have hlen : (cells.length : Int) ≤ 100 := by omega
          have i1 : (0 : Int) ≤ (j : Int) := by omega
          have i2 : (j : Int) < (cells.length : Int) := by omega
          have i3 : (0 : Int) ≤ (o : Int) := by omega
          have i4 : (o : Int) < (cells.length : Int) := by omega
          have i5 : j < cells.length := by omega
          by_cases hxy : x = y
          · subst hxy
            have HSAME : Aside0 (∀ i, j ≤ i → i < o → cells[i]? = cells[i + 1]?) := ⟨eq_ext HALL.out HX.out HY.out (by omega)⟩
            by_cases hlast : o + 1 = cells.length
            · have HL2 : Aside0 ((o : Int) = (cells.length : Int) - 1) := ⟨by omega⟩
              have HLS := Aside0.mk hlast
              clear hlast
              go_wp2
              go_region
              have hl2 := HL2.out
              go_wp2_with (at_mapUpdate; refine wp_store rfl _ _ _ rfl Try.underlying160 Try.underlying3 rfl (imap_drew HI2.out) (j : Int) rfl (WalkArith.wf_i64 (by omega)) ?_; intro w9 him hg; have HIM := Aside0.mk him; have HG := Aside0.mk hg; clear him hg)
              have N : Aside0 (imap w9 .i64 b (MrgP.look (L' ++ [(j, o)]))) := ⟨by rw [← look_put HV.out]; exact HIM.out⟩
              have NB : Aside0 (Below W.heap.size W w9) := ⟨(below_drew HB2.out).grown HG.out HB2.out.size (fun k hk => by cases hk; exact hWb)⟩
              go_roundw
              case rel => exact ⟨o, o + 1, L' ++ [(j, o)], by first | rfl | rw [hl2], by first | rw [HLS.out] | go_num, by omega, by omega, by omega, ⟨.inr ⟨HLS.out, rfl, hco, rfl, HSAME.out⟩⟩, N, NB⟩
              case measure => simp [intOf]; omega
            · have hl2 : ¬ (o : Int) = (cells.length : Int) - 1 := by omega
              go_wp2
              go_region
              go_wp2
              go_roundw
              case rel => exact ⟨j, o + 1, L', rfl, by go_num, by omega, by omega, by omega, ⟨.inl ⟨rfl, rfl, by omega, .inl (by omega), fun i h1 h2 => HSAME.out i h1 (by omega)⟩⟩, ⟨imap_drew HI2.out⟩, ⟨below_drew HB2.out⟩⟩
              case measure => simp [intOf]; omega
          · have hxe : ¬ x.toList = y.toList := fun e => hxy (by rw [tl, tl] at e; exact WideShapes.bytes_inj e)
            have hxb : (x.toList == y.toList) = false := by simpa using hxe
            have HCH := Aside0.mk (chain HALL.out)
            obtain ⟨e, he⟩ : ∃ e, o = e + 1 := ⟨o - 1, by omega⟩
            have HNE : Aside0 (cells[e + 1]? ≠ cells[e]?) := ⟨fun h => hxy (by
              have h1 := HCH.out (e - j) (by omega)
              rw [show j + (e - j) = e by omega] at h1
              rw [← he, HY.out, h1, HX.out] at h
              exact (Option.some.inj h).symm)⟩
            have HEI : Aside0 ((o : Int) - 1 = (e : Int)) := ⟨by omega⟩
            have HE := Aside0.mk he
            by_cases hje : j = e
            · have hje2 : (j : Int) = (o : Int) - 1 := by omega
              have HJE := Aside0.mk hje
              have HJ2 := Aside0.mk hje2
              clear hje hje2 he
              go_wp2
              go_region
              have hje2 := HJ2.out
              go_wp2
              go_roundw
              case rel => exact ⟨e + 1, L', by have := HEI.out; have := HJ2.out; have := HJE.out; first | go_num | (rw [← HJE.out]; go_num) | (congr 1; omega), by have := HE.out; omega, ⟨by have h := inv_none HV.out (fun h1 h2 => HNE.out (by rw [← HJE.out]; exact h2.symm)); rw [HJE.out] at h; exact h⟩, ⟨imap_drew HI2.out⟩, ⟨below_drew HB2.out⟩⟩
              case measure => have := HEI.out; have := HJ2.out; simp [intOf]; omega
            · have hje2 : ¬ (j : Int) = (o : Int) - 1 := by omega
              have HJE := Aside0.mk hje
              clear hje he
              go_wp2
              go_region
              go_wp2_with (at_mapUpdate; refine wp_store rfl _ _ _ rfl Try.underlying160 Try.underlying3 rfl (imap_drew HI2.out) (j : Int) rfl (WalkArith.wf_i64 (by omega)) ?_; intro w9 him hg; have HIM := Aside0.mk him; have HG := Aside0.mk hg; clear him hg)
              have N : Aside0 (imap w9 .i64 b (MrgP.look (L' ++ [(j, e)]))) := ⟨by rw [← look_put HV.out, ← HEI.out]; exact HIM.out⟩
              have NB : Aside0 (Below W.heap.size W w9) := ⟨(below_drew HB2.out).grown HG.out HB2.out.size (fun k hk => by cases hk; exact hWb)⟩
              go_roundw
              case rel => exact ⟨e + 1, L' ++ [(j, e)], by have := HEI.out; congr 1; omega, by have := HE.out; omega, ⟨inv_run HV.out hlt (by have := HE.out; have := HJE.out; omega) (by have := HE.out; omega) (fun i h1 h2 => HALL.out i h1 (by have := HE.out; omega)) (fun _ => HNE.out)⟩, N, NB⟩
              case measure => have := HEI.out; simp [intOf]; omega
        · have hol2 : ¬ (o : Int) < (cells.length : Int) := by omega
          rcases HN.out with ⟨rfl, rfl, hco, hoo, _⟩ | ⟨h1, h2, h3, rfl, hall⟩
          · have HOO := Aside0.mk hoo
            clear hoo
            go_wp2
            go_roundw
            case rel => exact ⟨j + 1, L', by go_num, by omega, ⟨inv_none HV.out (fun h => by have := HOO.out; omega)⟩, HI2, HB2⟩
            case measure => simp [intOf]; omega
          · have HALL := Aside0.mk hall
            have HH1 := Aside0.mk h1
            have HH2 := Aside0.mk h2
            clear hall h1 h2 HN
            go_wp2
            go_roundw
            case rel => exact ⟨j + 1, L ++ [(c, j)], by go_num, by have := HH1.out; have := HH2.out; omega, ⟨inv_run HV.out hlt h3 (by have := HH1.out; have := HH2.out; omega) HALL.out (fun h => by have := HH1.out; have := HH2.out; omega)⟩, HI2, HB2⟩
            case measure => simp [intOf]; omega
    · go_wp2
      go_ret
      exact ⟨b, c, L, rfl, hWb, by omega, HV.out, HI.out, HBL.out⟩
end Go.Proofs.Ytjoagjkmghmnnaa.MrgW
