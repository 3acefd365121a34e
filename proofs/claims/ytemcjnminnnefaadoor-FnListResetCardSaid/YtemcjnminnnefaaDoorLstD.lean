/-
  Proved: what impl.listOf makes of steps of the kinds 0, 2, 3, 5. Conditions: at most 20000 steps, texts without tabs and line ends.
-/
import Derived.Test.YtemcjnminnnefaaDoorLstC
import Derived.Test.YtemcjnminnnefaaDoorGFnListResetx0
namespace Go.Proofs.YtemcjnminnnefaaDoor.LstD
open Go.RowKit Go.Proofs.YtemcjnminnnefaaDoorW.PrintWords Go.Proofs.YtemcjnminnnefaaDoorW.PrintLast Go.Proofs.YtemcjnminnnefaaDoorW.PrintMore Go.Proofs.YtemcjnminnnefaaDoor.Common Go.Proofs.YtemcjnminnnefaaDoor.LstT Go.Proofs.YtemcjnminnnefaaDoor.LstA Go.Proofs.YtemcjnminnnefaaDoor.LstB Go.Proofs.YtemcjnminnnefaaDoor.LstC Go.Proofs.YtemcjnminnnefaaDoor.GFnListReset
set_option linter.unusedVariables false
set_option linter.unusedSimpArgs false
set_option maxRecDepth 1000000

abbrev St := List (Nat × ByteArray) × Nat
instance (s : ByteArray) : Decidable (good s) := by unfold good; infer_instance
def stepF (x : S28) (st : St) : Option St :=
  if x.f0 = 0 then (if good x.f1 then some (st.1 ++ [(st.2, x.f1)], st.2) else none)
  else if x.f0 = 2 then some (st.1, indentF st.1 st.2)
  else if x.f0 = 3 then some (st.1, st.2 - 1)
  else if x.f0 = 5 then some ([], 0)
  else none
def run : List S28 → St → Option St
  | [], st => some st
  | x :: t, st => (stepF x st).bind (run t)
theorem run_at (l : List S28) (q : Nat) (h : q < l.length) (st st1 : St) (hr : run (l.drop q) st = some st1) : ∃ st2, stepF l[q] st = some st2 ∧ run (l.drop (q + 1)) st2 = some st1 := by
  rw [List.drop_eq_getElem_cons h, run] at hr
  exact Option.bind_eq_some_iff.1 hr
theorem rd28 (l : List S28) (q : Nat) (h : q < l.length) : rd_T28 l (q : Int) = l[q] := by
  simp [rd_T28, List.getD_eq_getElem?_getD, List.getElem?_eq_getElem h]
theorem indent_le (its : List (Nat × ByteArray)) (lev : Nat) : indentF its lev ≤ lev + 1 := by
  unfold indentF
  split
  · omega
  · split <;> omega
theorem _root_.Go.Proofs.YtemcjnminnnefaaDoor.LstA.LS.far {B : Nat} {w0 : World} {q : Nat} {gs : List Nat} {its : List (Nat × ByteArray)} {lev : Nat} {v : Value} {w : World} (h : LS B w0 q gs its lev v w) {g : Nat} {T : Array Value} (hg : w.heap[g]? = some (.cells T 28 (0, 0))) (hB : B ≤ g) (i : Nat) (u : Value) :
    LS B w0 q gs its lev v (w.setCell ⟨g, i, none⟩ u) := by
  refine ⟨(setCell_block w _ u q (typed_ne h.hq hg (by decide))).trans h.hq, Kd.R_set h.row hg (fun x hx => ?_) i u, fun j k it h3 h4 => ?_, h.len, h.bel.setCell hB _, h.bq⟩
  · rcases List.mem_cons.1 hx with rfl | hx
    · decide
    · cases hx
  · have hk := h.el j k it h3 h4
    exact ⟨(setCell_block w _ u k (typed_ne hk.1 hg (by decide))).trans hk.1, hk.2⟩
theorem boxed {B : Nat} {w0 : World} {q : Nat} {gs : List Nat} {its : List (Nat × ByteArray)} {lev : Nat} {v : Value} {wr w1 : World} {g : Nat} {T : Array Value} (h : LS B w0 q gs its lev v wr) (hB : B ≤ wr.heap.size) (hg : w1.heap[g]? = some (.cells T 28 (0, 0))) (hgw : wr.heap.size ≤ g) (hb : Below wr.heap.size wr w1) (a b c : Value) :
    LS B w0 q gs its lev v (((w1.setCell ⟨g, 0, none⟩ a).setCell ⟨g, 1, none⟩ b).setCell ⟨g, 2, none⟩ c) := by
  have hBg : B ≤ g := Nat.le_trans hB hgw
  have e1 := set_cells w1 g 0 _ _ a hg
  have e2 := set_cells _ g 1 _ _ b e1
  exact (((h.below hB hb).far hg hBg 0 a).far e1 hBg 1 b).far e2 hBg 2 c
theorem listOf_c (l : List S28) (st : St) (hrun : run l ([], 0) = some st) (hl : l.length ≤ 20000) (A : Option Addr) (c : Nat) (w : World) (hr : Kd.C k28 w A l.length l) :
    Calls Tryd.prog 11 #[.slice A l.length c] w fun e w' => ∃ q gs v, e = .returned (.pointer (some ⟨q, 0, none⟩)) ∧ w.heap.size ≤ w'.heap.size ∧ LS w.heap.size w q gs st.1 st.2 v w' := by
  have HC : ∀ q : Nat, q < l.length → Aside0 (∃ ad A2 c2, A = some ad ∧ w.cell? (ad.add (q * 3)) = some (.int .i64 (rd_T28 l (q : Int)).f0) ∧ w.cell? ⟨(ad.add (q * 3)).block, (ad.add (q * 3)).off + 1, none⟩ = some (.string (rd_T28 l (q : Int)).f1) ∧ w.cell? ⟨(ad.add (q * 3)).block, (ad.add (q * 3)).off + 2, none⟩ = some (.slice A2 (rd_T28 l (q : Int)).f2.length c2)) := fun q hq => by
    obtain ⟨ad, A2, c2, e, h0, h1, h2, _⟩ := at_T28 hr (q : Int) (by omega) (by omega)
    rw [Int.toNat_natCast] at h0 h1 h2
    exact Aside0.mk ⟨ad, A2, c2, e, h0, h1, h2⟩
  obtain ⟨W1, hW1⟩ : ∃ W1, W1 = w.alloc (.cells #[.int .i64 0, .string ⟨#[]⟩, .string ⟨#[]⟩, .slice none 0 0, .int .i64 0, .pointer none] 44) := ⟨_, rfl⟩
  have hW := Aside0.mk hW1
  have HS : Aside0 (LS w.heap.size w w.heap.size [] [] 0 (.slice none 0 0) W1) := by
    rw [hW1]
    exact ⟨heap_alloc_new w _, Kd.R_nil _ _ _ _ _, fun i g it h => by simp at h, rfl, below_alloc (Below.refl _ _) _, Nat.le_refl _⟩
  have HZ1 : Aside0 (w.heap.size ≤ W1.heap.size) := by
    rw [hW1]
    exact Aside0.mk (by rw [World.size_alloc]; omega)
  clear hr hW1
  go_enter Tryd.func11, Tryd.ntmps11
  go_wp2
  go_loopw [13] (fun i wr => ∃ (q : Nat) (its : List (Nat × ByteArray)) (lev : Nat) (gs : List Nat) (v : Value), Value.int .i64 (q : Int) = i ∧ q ≤ l.length ∧ its.length ≤ q ∧ lev ≤ q ∧ Aside0 (run (l.drop q) (its, lev) = some st) ∧ Aside0 (LS w.heap.size w w.heap.size gs its lev v wr)) (fun i _ => l.length - (intOf i).toNat)
  case atStart =>
    rw [← hW.out]
    exact ⟨0, [], 0, [], _, rfl, by omega, by simp, by omega, Aside0.mk (by rw [List.drop_zero]; exact hrun), HS⟩
  case round =>
    obtain ⟨q, its, lev, gs, v, rfl, hq, hitn, hlev, HRN, HL⟩ := hrel
    clear hrun HS
    by_cases hlt : q < l.length
    · obtain ⟨ad, A2, c2, rfl, hx0, hx1, hx2⟩ := (HC q hlt).out
      obtain ⟨⟨its2, lev2⟩, hst, hrn2⟩ := run_at l q hlt _ _ HRN.out
      have hsz := HL.out.bel.size
      replace hx0 := (HL.out.bel.cell (World.block_lt_of_cell? w _ hx0)).trans hx0
      replace hx1 := (HL.out.bel.cell (World.block_lt_of_cell? w _ hx1)).trans hx1
      replace hx2 := (HL.out.bel.cell (World.block_lt_of_cell? w _ hx2)).trans hx2
      rw [← rd28 l q hlt] at hst
      have HLV := fun w1 g T hg hgw hb a b c => Aside0.mk (boxed (w1 := w1) (g := g) (T := T) HL.out hsz hg hgw hb a b c)
      have HSZ := Aside0.mk hsz
      have HRN2 := Aside0.mk hrn2
      have hglen : gs.length = its.length := HL.out.len
      clear HC hrn2 hsz
      generalize rd_T28 l (q : Int) = x at *
      obtain ⟨x0, x1, x2⟩ := x
      unfold stepF at hst
      dsimp only at *
      by_cases k0 : x0 = 0
      · subst k0
        rw [if_pos rfl] at hst
        by_cases hgd : good x1
        · rw [if_pos hgd] at hst
          cases hst
          have HG := Aside0.mk hgd
          go_wp2_with (first
            | ((with_reducible refine gate_dst (N := 5) rfl ?_); (try (refine gate_guard (by rfl) ?_; dsimp only)); refine box_event ?hg (N := 5) ?hd (cs := #[.int .i64 0, .string (⟨#[]⟩ : ByteArray), .slice none 0 0]) (t := 28) ?hr ?_; (case hd => rfl); (case hg => rfl); (case hr => first | (go_simp; done) | (go_simp; rfl)); intro gb hgb w10 hbox hb; have HGB := Aside0.mk hgb; have HBX := Aside0.mk hbox; have HBB := Aside0.mk hb; clear hgb hbox hb; have hcz0 : w10.cell? ⟨gb, 0, none⟩ = some (.int .i64 0) := (blk_cell HBX.out 0).trans rfl; have hcz1 : w10.cell? ⟨gb, 1, none⟩ = some (.string (⟨#[]⟩ : ByteArray)) := (blk_cell HBX.out 1).trans rfl; have hcz2 : w10.cell? ⟨gb, 2, none⟩ = some (.slice none 0 0) := (blk_cell HBX.out 2).trans rfl; have hfz0 := blk_frozen HBX.out 0; have hfz1 := blk_frozen HBX.out 1; have hfz2 := blk_frozen HBX.out 2; have HLX := fun a b c => HLV w10 gb _ HBX.out (Nat.le_of_eq HGB.out.symm) HBB.out a b c)
            | (go_at_call 15; refine (append_c (HLX _ _ _).out (HLX _ _ _).out.bel.size x1 HG.out (by omega)).mono ?_; rintro e w2 ⟨u, rfl, g1, v1, hls⟩; have HLS := Aside0.mk hls; clear hls))
          go_roundw
          case rel => exact ⟨q + 1, _, _, _, _, by go_num, by omega, by simp; omega, by omega, HRN2, HLS⟩
          case measure => simp [intOf]; omega
        · rw [if_neg hgd] at hst
          cases hst
      · rw [if_neg k0] at hst
        by_cases k2 : x0 = 2
        · subst k2
          rw [if_pos rfl] at hst
          cases hst
          go_wp2_with (first
            | ((with_reducible refine gate_dst (N := 5) rfl ?_); (try (refine gate_guard (by rfl) ?_; dsimp only)); refine box_event ?hg (N := 5) ?hd (cs := #[.int .i64 0, .string (⟨#[]⟩ : ByteArray), .slice none 0 0]) (t := 28) ?hr ?_; (case hd => rfl); (case hg => rfl); (case hr => first | (go_simp; done) | (go_simp; rfl)); intro gb hgb w10 hbox hb; have HGB := Aside0.mk hgb; have HBX := Aside0.mk hbox; have HBB := Aside0.mk hb; clear hgb hbox hb; have hcz0 : w10.cell? ⟨gb, 0, none⟩ = some (.int .i64 0) := (blk_cell HBX.out 0).trans rfl; have hcz1 : w10.cell? ⟨gb, 1, none⟩ = some (.string (⟨#[]⟩ : ByteArray)) := (blk_cell HBX.out 1).trans rfl; have hcz2 : w10.cell? ⟨gb, 2, none⟩ = some (.slice none 0 0) := (blk_cell HBX.out 2).trans rfl; have hfz0 := blk_frozen HBX.out 0; have hfz1 := blk_frozen HBX.out 1; have hfz2 := blk_frozen HBX.out 2; have HLX := fun a b c => HLV w10 gb _ HBX.out (Nat.le_of_eq HGB.out.symm) HBB.out a b c)
            | (go_at_call 17; refine (indent_c (HLX _ _ _).out (HLX _ _ _).out.bel.size (by omega) (by omega)).mono ?_; rintro e w2 ⟨u, rfl, hls⟩; have HLS := Aside0.mk hls; clear hls))
          go_roundw
          case rel => exact ⟨q + 1, _, _, _, _, by go_num, by omega, by omega, by have := indent_le its lev; omega, HRN2, HLS⟩
          case measure => simp [intOf]; omega
        · rw [if_neg k2] at hst
          by_cases k3 : x0 = 3
          · subst k3
            rw [if_pos rfl] at hst
            cases hst
            go_wp2_with (first
              | ((with_reducible refine gate_dst (N := 5) rfl ?_); (try (refine gate_guard (by rfl) ?_; dsimp only)); refine box_event ?hg (N := 5) ?hd (cs := #[.int .i64 0, .string (⟨#[]⟩ : ByteArray), .slice none 0 0]) (t := 28) ?hr ?_; (case hd => rfl); (case hg => rfl); (case hr => first | (go_simp; done) | (go_simp; rfl)); intro gb hgb w10 hbox hb; have HGB := Aside0.mk hgb; have HBX := Aside0.mk hbox; have HBB := Aside0.mk hb; clear hgb hbox hb; have hcz0 : w10.cell? ⟨gb, 0, none⟩ = some (.int .i64 0) := (blk_cell HBX.out 0).trans rfl; have hcz1 : w10.cell? ⟨gb, 1, none⟩ = some (.string (⟨#[]⟩ : ByteArray)) := (blk_cell HBX.out 1).trans rfl; have hcz2 : w10.cell? ⟨gb, 2, none⟩ = some (.slice none 0 0) := (blk_cell HBX.out 2).trans rfl; have hfz0 := blk_frozen HBX.out 0; have hfz1 := blk_frozen HBX.out 1; have hfz2 := blk_frozen HBX.out 2; have HLX := fun a b c => HLV w10 gb _ HBX.out (Nat.le_of_eq HGB.out.symm) HBB.out a b c)
              | (go_at_call 18; refine (unindent_c (HLX _ _ _).out (by omega)).mono ?_; rintro e w2 ⟨u, rfl, hls⟩; have HLS := Aside0.mk hls; clear hls))
            go_roundw
            case rel => exact ⟨q + 1, _, _, _, _, by go_num, by omega, by omega, by omega, HRN2, HLS⟩
            case measure => simp [intOf]; omega
          · rw [if_neg k3] at hst
            by_cases k5 : x0 = 5
            · subst k5
              rw [if_pos rfl] at hst
              cases hst
              go_wp2_with (first
                | ((with_reducible refine gate_dst (N := 5) rfl ?_); (try (refine gate_guard (by rfl) ?_; dsimp only)); refine box_event ?hg (N := 5) ?hd (cs := #[.int .i64 0, .string (⟨#[]⟩ : ByteArray), .slice none 0 0]) (t := 28) ?hr ?_; (case hd => rfl); (case hg => rfl); (case hr => first | (go_simp; done) | (go_simp; rfl)); intro gb hgb w10 hbox hb; have HGB := Aside0.mk hgb; have HBX := Aside0.mk hbox; have HBB := Aside0.mk hb; clear hgb hbox hb; have hcz0 : w10.cell? ⟨gb, 0, none⟩ = some (.int .i64 0) := (blk_cell HBX.out 0).trans rfl; have hcz1 : w10.cell? ⟨gb, 1, none⟩ = some (.string (⟨#[]⟩ : ByteArray)) := (blk_cell HBX.out 1).trans rfl; have hcz2 : w10.cell? ⟨gb, 2, none⟩ = some (.slice none 0 0) := (blk_cell HBX.out 2).trans rfl; have hfz0 := blk_frozen HBX.out 0; have hfz1 := blk_frozen HBX.out 1; have hfz2 := blk_frozen HBX.out 2; have HLX := fun a b c => HLV w10 gb _ HBX.out (Nat.le_of_eq HGB.out.symm) HBB.out a b c)
                | (go_at_call 20; refine (reset_c (HLX _ _ _).out (HLX _ _ _).out.bel.size).mono ?_; rintro e w2 ⟨u, rfl, v1, hls⟩; have HLS := Aside0.mk hls; clear hls))
              go_roundw
              case rel => exact ⟨q + 1, _, _, _, _, by go_num, by omega, by simp, by omega, HRN2, HLS⟩
              case measure => simp [intOf]; omega
            · rw [if_neg k5] at hst
              cases hst
    · obtain rfl : q = l.length := by omega
      have e := HRN.out
      rw [List.drop_length] at e
      cases e
      go_wp2
      go_ret
      exact ⟨_, rfl, HL.out.bel.size, gs, v, HL.out⟩
end Go.Proofs.YtemcjnminnnefaaDoor.LstD
