/-
  Proved: what Style of a list writer without a style does. Conditions: none but the writer's state.
-/
import Derived.Test.YtphnnbbgcnilgaaDoorLstC
import Derived.Test.YtphnnbbgcnilgaaDoorGFnListFormatx0
import Derived.Test.YtphnnbbgcnilgaaDoorFmA
namespace Go.Proofs.YtphnnbbgcnilgaaDoor.LstD
open Go.RowKit Go.Proofs.YtphnnbbgcnilgaaDoorW.PrintWords Go.Proofs.YtphnnbbgcnilgaaDoorW.PrintLast Go.Proofs.YtphnnbbgcnilgaaDoorW.PrintMore Go.Proofs.YtphnnbbgcnilgaaDoor.Common Go.Proofs.YtphnnbbgcnilgaaDoor.LstT Go.Proofs.YtphnnbbgcnilgaaDoor.LstA Go.Proofs.YtphnnbbgcnilgaaDoor.LstB Go.Proofs.YtphnnbbgcnilgaaDoor.LstC Go.Proofs.YtphnnbbgcnilgaaDoor.GFnListFormat
set_option linter.unusedVariables false
set_option linter.unusedSimpArgs false
set_option maxRecDepth 1000000

abbrev St := List (Nat × ByteArray) × Nat
instance (s : ByteArray) : Decidable (good s) := by unfold good; infer_instance
def stepF (x : S57) (st : St) : Option St :=
  if x.f0 = 0 then (if good x.f1 then some (st.1 ++ [(st.2, x.f1)], st.2) else none)
  else if x.f0 = 2 then some (st.1, indentF st.1 st.2)
  else if x.f0 = 3 then some (st.1, st.2 - 1)
  else if x.f0 = 5 then some ([], 0)
  else none
def run : List S57 → St → Option St
  | [], st => some st
  | x :: t, st => (stepF x st).bind (run t)
theorem run_at (l : List S57) (q : Nat) (h : q < l.length) (st st1 : St) (hr : run (l.drop q) st = some st1) : ∃ st2, stepF l[q] st = some st2 ∧ run (l.drop (q + 1)) st2 = some st1 := by
  rw [List.drop_eq_getElem_cons h, run] at hr
  exact Option.bind_eq_some_iff.1 hr
theorem rd57 (l : List S57) (q : Nat) (h : q < l.length) : rd_T57 l (q : Int) = l[q] := by
  simp [rd_T57, List.getD_eq_getElem?_getD, List.getElem?_eq_getElem h]
theorem indent_le (its : List (Nat × ByteArray)) (lev : Nat) : indentF its lev ≤ lev + 1 := by
  unfold indentF
  split
  · omega
  · split <;> omega
theorem _root_.Go.Proofs.YtphnnbbgcnilgaaDoor.LstA.LS.far {B : Nat} {w0 : World} {q : Nat} {gs : List Nat} {its : List (Nat × ByteArray)} {lev : Nat} {v : Value} {w : World} (h : LS B w0 q gs its lev v w) {g : Nat} {T : Array Value} (hg : w.heap[g]? = some (.cells T 57 (0, 0))) (hB : B ≤ g) (i : Nat) (u : Value) :
    LS B w0 q gs its lev v (w.setCell ⟨g, i, none⟩ u) := by
  refine ⟨(setCell_block w _ u q (typed_ne h.hq hg (by decide))).trans h.hq, Kd.R_set h.row hg (fun x hx => ?_) i u, fun j k it h3 h4 => ?_, h.len, h.bel.setCell hB _, h.bq⟩
  · rcases List.mem_cons.1 hx with rfl | hx
    · decide
    · cases hx
  · have hk := h.el j k it h3 h4
    exact ⟨(setCell_block w _ u k (typed_ne hk.1 hg (by decide))).trans hk.1, hk.2⟩
theorem boxed {B : Nat} {w0 : World} {q : Nat} {gs : List Nat} {its : List (Nat × ByteArray)} {lev : Nat} {v : Value} {wr w1 : World} {g : Nat} {T : Array Value} (h : LS B w0 q gs its lev v wr) (hB : B ≤ wr.heap.size) (hg : w1.heap[g]? = some (.cells T 57 (0, 0))) (hgw : wr.heap.size ≤ g) (hb : Below wr.heap.size wr w1) (a b c : Value) :
    LS B w0 q gs its lev v (((w1.setCell ⟨g, 0, none⟩ a).setCell ⟨g, 1, none⟩ b).setCell ⟨g, 2, none⟩ c) := by
  have hBg : B ≤ g := Nat.le_trans hB hgw
  have e1 := set_cells w1 g 0 _ _ a hg
  have e2 := set_cells _ g 1 _ _ b e1
  exact (((h.below hB hb).far hg hBg 0 a).far e1 hBg 1 b).far e2 hBg 2 c
theorem listOf_c (l : List S57) (st : St) (hrun : run l ([], 0) = some st) (hl : l.length ≤ 20000) (A : Option Addr) (c : Nat) (w : World) (hr : Kd.C k57 w A l.length l) :
    Calls Tryd.prog 23 #[.slice A l.length c] w fun e w' => ∃ q gs v, e = .returned (.pointer (some ⟨q, 0, none⟩)) ∧ w.heap.size ≤ w'.heap.size ∧ LS w.heap.size w q gs st.1 st.2 v w' := by
  have HC : ∀ q : Nat, q < l.length → Aside0 (∃ ad A2 c2, A = some ad ∧ w.cell? (ad.add (q * 3)) = some (.int .i64 (rd_T57 l (q : Int)).f0) ∧ w.cell? ⟨(ad.add (q * 3)).block, (ad.add (q * 3)).off + 1, none⟩ = some (.string (rd_T57 l (q : Int)).f1) ∧ w.cell? ⟨(ad.add (q * 3)).block, (ad.add (q * 3)).off + 2, none⟩ = some (.slice A2 (rd_T57 l (q : Int)).f2.length c2)) := fun q hq => by
    obtain ⟨ad, A2, c2, e, h0, h1, h2, _⟩ := at_T57 hr (q : Int) (by omega) (by omega)
    rw [Int.toNat_natCast] at h0 h1 h2
    exact Aside0.mk ⟨ad, A2, c2, e, h0, h1, h2⟩
  obtain ⟨W1, hW1⟩ : ∃ W1, W1 = w.alloc (.cells #[.int .i64 0, .string ⟨#[]⟩, .string ⟨#[]⟩, .slice none 0 0, .int .i64 0, .pointer none] 64) := ⟨_, rfl⟩
  have hW := Aside0.mk hW1
  have HS : Aside0 (LS w.heap.size w w.heap.size [] [] 0 (.slice none 0 0) W1) := by
    rw [hW1]
    exact ⟨heap_alloc_new w _, Kd.R_nil _ _ _ _ _, fun i g it h => by simp at h, rfl, below_alloc (Below.refl _ _) _, Nat.le_refl _⟩
  have HZ1 : Aside0 (w.heap.size ≤ W1.heap.size) := by
    rw [hW1]
    exact Aside0.mk (by rw [World.size_alloc]; omega)
  clear hr hW1
  go_enter Tryd.func23, Tryd.ntmps23
  go_wp2
  go_loopw [13] (fun i wr => ∃ (q : Nat) (its : List (Nat × ByteArray)) (lev : Nat) (gs : List Nat) (v : Value), Value.int .i64 (q : Int) = i ∧ q ≤ l.length ∧ its.length ≤ q ∧ lev ≤ q ∧ Aside0 (run (l.drop q) (its, lev) = some st) ∧ Aside0 (LS w.heap.size w w.heap.size gs its lev v wr)) (fun i _ => l.length - (intOf i).toNat)
  case atStart =>
    rw [← hW.out]
    exact ⟨0, [], 0, [], _, rfl, by omega, by simp, by omega, Aside0.mk (by rw [List.drop_zero]; exact hrun), HS⟩
  case round =>
    obtain ⟨q, its, lev, gs, v, rfl, hq, hitn, hlev, HRN, HL⟩ := hrel
    clear hrun HS
    by_cases hlt : q < l.length
    · obtain ⟨ad, A2, c2, rfl, hx0, hx1, hx2⟩ := (HC q hlt).out
      obtain ⟨⟨its2, lev2⟩, hst, hrn2⟩ := run_at l q hlt _ _ HRN.out
      have hsz := HL.out.bel.size
      replace hx0 := (HL.out.bel.cell (World.block_lt_of_cell? w _ hx0)).trans hx0
      replace hx1 := (HL.out.bel.cell (World.block_lt_of_cell? w _ hx1)).trans hx1
      replace hx2 := (HL.out.bel.cell (World.block_lt_of_cell? w _ hx2)).trans hx2
      rw [← rd57 l q hlt] at hst
      have HLV := fun w1 g T hg hgw hb a b c => Aside0.mk (boxed (w1 := w1) (g := g) (T := T) HL.out hsz hg hgw hb a b c)
      have HSZ := Aside0.mk hsz
      have HRN2 := Aside0.mk hrn2
      have hglen : gs.length = its.length := HL.out.len
      clear HC hrn2 hsz
      generalize rd_T57 l (q : Int) = x at *
      obtain ⟨x0, x1, x2⟩ := x
      unfold stepF at hst
      dsimp only at *
      by_cases k0 : x0 = 0
      · subst k0
        rw [if_pos rfl] at hst
        by_cases hgd : good x1
        · rw [if_pos hgd] at hst
          cases hst
          have HG := Aside0.mk hgd
          go_wp2_with (first
            | ((with_reducible refine gate_dst (N := 5) rfl ?_); (try (refine gate_guard (by rfl) ?_; dsimp only)); refine box_event ?hg (N := 5) ?hd (cs := #[.int .i64 0, .string (⟨#[]⟩ : ByteArray), .slice none 0 0]) (t := 57) ?hr ?_; (case hd => rfl); (case hg => rfl); (case hr => first | (go_simp; done) | (go_simp; rfl)); intro gb hgb w10 hbox hb; have HGB := Aside0.mk hgb; have HBX := Aside0.mk hbox; have HBB := Aside0.mk hb; clear hgb hbox hb; have hcz0 : w10.cell? ⟨gb, 0, none⟩ = some (.int .i64 0) := (blk_cell HBX.out 0).trans rfl; have hcz1 : w10.cell? ⟨gb, 1, none⟩ = some (.string (⟨#[]⟩ : ByteArray)) := (blk_cell HBX.out 1).trans rfl; have hcz2 : w10.cell? ⟨gb, 2, none⟩ = some (.slice none 0 0) := (blk_cell HBX.out 2).trans rfl; have hfz0 := blk_frozen HBX.out 0; have hfz1 := blk_frozen HBX.out 1; have hfz2 := blk_frozen HBX.out 2; have HLX := fun a b c => HLV w10 gb _ HBX.out (Nat.le_of_eq HGB.out.symm) HBB.out a b c)
            | (go_at_call 30; refine (append_c (HLX _ _ _).out (HLX _ _ _).out.bel.size x1 HG.out (by omega)).mono ?_; rintro e w2 ⟨u, rfl, g1, v1, hls⟩; have HLS := Aside0.mk hls; clear hls))
          go_roundw
          case rel => exact ⟨q + 1, _, _, _, _, by go_num, by omega, by simp; omega, by omega, HRN2, HLS⟩
          case measure => simp [intOf]; omega
        · rw [if_neg hgd] at hst
          cases hst
      · rw [if_neg k0] at hst
        by_cases k2 : x0 = 2
        · subst k2
          rw [if_pos rfl] at hst
          cases hst
          go_wp2_with (first
            | ((with_reducible refine gate_dst (N := 5) rfl ?_); (try (refine gate_guard (by rfl) ?_; dsimp only)); refine box_event ?hg (N := 5) ?hd (cs := #[.int .i64 0, .string (⟨#[]⟩ : ByteArray), .slice none 0 0]) (t := 57) ?hr ?_; (case hd => rfl); (case hg => rfl); (case hr => first | (go_simp; done) | (go_simp; rfl)); intro gb hgb w10 hbox hb; have HGB := Aside0.mk hgb; have HBX := Aside0.mk hbox; have HBB := Aside0.mk hb; clear hgb hbox hb; have hcz0 : w10.cell? ⟨gb, 0, none⟩ = some (.int .i64 0) := (blk_cell HBX.out 0).trans rfl; have hcz1 : w10.cell? ⟨gb, 1, none⟩ = some (.string (⟨#[]⟩ : ByteArray)) := (blk_cell HBX.out 1).trans rfl; have hcz2 : w10.cell? ⟨gb, 2, none⟩ = some (.slice none 0 0) := (blk_cell HBX.out 2).trans rfl; have hfz0 := blk_frozen HBX.out 0; have hfz1 := blk_frozen HBX.out 1; have hfz2 := blk_frozen HBX.out 2; have HLX := fun a b c => HLV w10 gb _ HBX.out (Nat.le_of_eq HGB.out.symm) HBB.out a b c)
            | (go_at_call 32; refine (indent_c (HLX _ _ _).out (HLX _ _ _).out.bel.size (by omega) (by omega)).mono ?_; rintro e w2 ⟨u, rfl, hls⟩; have HLS := Aside0.mk hls; clear hls))
          go_roundw
          case rel => exact ⟨q + 1, _, _, _, _, by go_num, by omega, by omega, by have := indent_le its lev; omega, HRN2, HLS⟩
          case measure => simp [intOf]; omega
        · rw [if_neg k2] at hst
          by_cases k3 : x0 = 3
          · subst k3
            rw [if_pos rfl] at hst
            cases hst
            go_wp2_with (first
              | ((with_reducible refine gate_dst (N := 5) rfl ?_); (try (refine gate_guard (by rfl) ?_; dsimp only)); refine box_event ?hg (N := 5) ?hd (cs := #[.int .i64 0, .string (⟨#[]⟩ : ByteArray), .slice none 0 0]) (t := 57) ?hr ?_; (case hd => rfl); (case hg => rfl); (case hr => first | (go_simp; done) | (go_simp; rfl)); intro gb hgb w10 hbox hb; have HGB := Aside0.mk hgb; have HBX := Aside0.mk hbox; have HBB := Aside0.mk hb; clear hgb hbox hb; have hcz0 : w10.cell? ⟨gb, 0, none⟩ = some (.int .i64 0) := (blk_cell HBX.out 0).trans rfl; have hcz1 : w10.cell? ⟨gb, 1, none⟩ = some (.string (⟨#[]⟩ : ByteArray)) := (blk_cell HBX.out 1).trans rfl; have hcz2 : w10.cell? ⟨gb, 2, none⟩ = some (.slice none 0 0) := (blk_cell HBX.out 2).trans rfl; have hfz0 := blk_frozen HBX.out 0; have hfz1 := blk_frozen HBX.out 1; have hfz2 := blk_frozen HBX.out 2; have HLX := fun a b c => HLV w10 gb _ HBX.out (Nat.le_of_eq HGB.out.symm) HBB.out a b c)
              | (go_at_call 33; refine (unindent_c (HLX _ _ _).out (by omega)).mono ?_; rintro e w2 ⟨u, rfl, hls⟩; have HLS := Aside0.mk hls; clear hls))
            go_roundw
            case rel => exact ⟨q + 1, _, _, _, _, by go_num, by omega, by omega, by omega, HRN2, HLS⟩
            case measure => simp [intOf]; omega
          · rw [if_neg k3] at hst
            by_cases k5 : x0 = 5
            · subst k5
              rw [if_pos rfl] at hst
              cases hst
              go_wp2_with (first
                | ((with_reducible refine gate_dst (N := 5) rfl ?_); (try (refine gate_guard (by rfl) ?_; dsimp only)); refine box_event ?hg (N := 5) ?hd (cs := #[.int .i64 0, .string (⟨#[]⟩ : ByteArray), .slice none 0 0]) (t := 57) ?hr ?_; (case hd => rfl); (case hg => rfl); (case hr => first | (go_simp; done) | (go_simp; rfl)); intro gb hgb w10 hbox hb; have HGB := Aside0.mk hgb; have HBX := Aside0.mk hbox; have HBB := Aside0.mk hb; clear hgb hbox hb; have hcz0 : w10.cell? ⟨gb, 0, none⟩ = some (.int .i64 0) := (blk_cell HBX.out 0).trans rfl; have hcz1 : w10.cell? ⟨gb, 1, none⟩ = some (.string (⟨#[]⟩ : ByteArray)) := (blk_cell HBX.out 1).trans rfl; have hcz2 : w10.cell? ⟨gb, 2, none⟩ = some (.slice none 0 0) := (blk_cell HBX.out 2).trans rfl; have hfz0 := blk_frozen HBX.out 0; have hfz1 := blk_frozen HBX.out 1; have hfz2 := blk_frozen HBX.out 2; have HLX := fun a b c => HLV w10 gb _ HBX.out (Nat.le_of_eq HGB.out.symm) HBB.out a b c)
                | (go_at_call 35; refine (reset_c (HLX _ _ _).out (HLX _ _ _).out.bel.size).mono ?_; rintro e w2 ⟨u, rfl, v1, hls⟩; have HLS := Aside0.mk hls; clear hls))
              go_roundw
              case rel => exact ⟨q + 1, _, _, _, _, by go_num, by omega, by simp, by omega, HRN2, HLS⟩
              case measure => simp [intOf]; omega
            · rw [if_neg k5] at hst
              cases hst
    · obtain rfl : q = l.length := by omega
      have e := HRN.out
      rw [List.drop_length] at e
      cases e
      go_wp2
      go_ret
      exact ⟨_, rfl, HL.out.bel.size, gs, v, HL.out⟩
end Go.Proofs.YtphnnbbgcnilgaaDoor.LstD

namespace Go.Proofs.YtphnnbbgcnilgaaDoor.LstE
open Go.RowKit Go.Proofs.YtphnnbbgcnilgaaDoorW.PrintWords Go.Proofs.YtphnnbbgcnilgaaDoor.Common Go.Proofs.YtphnnbbgcnilgaaDoor.LstT Go.Proofs.YtphnnbbgcnilgaaDoor.LstA Go.Proofs.YtphnnbbgcnilgaaDoor.LstB Go.Proofs.YtphnnbbgcnilgaaDoor.LstC Go.Proofs.YtphnnbbgcnilgaaDoor.FmA
set_option linter.unusedVariables false
set_option linter.unusedSimpArgs false
set_option maxRecDepth 1000000

/-- a style's texts (its new line a line feed, its format the default one) -/
structure Sty where
  sg : ByteArray
  tp : ByteArray
  fi : ByteArray
  mi : ByteArray
  ve : ByteArray
  bo : ByteArray
  px : ByteArray
  nm : ByteArray
  fm : Int
def styC (y : Sty) : Array Value := #[.int .i64 y.fm, .string y.sg, .string y.tp, .string y.fi, .string y.mi, .string y.ve, .string y.bo, .string ⟨#[10]⟩, .string y.px, .string y.nm]
/-- what the style's format makes of a text -/
def FmtC (f : Int) (W : World) : Prop := ∀ W', Below W.heap.size W W' → ∀ s, okT f s → Calls Tryd.prog 27 #[.int .i64 f, .string s] W' fun e w' => e = .returned (.string (FF f s)) ∧ Below W'.heap.size W' w'
theorem FmtC.below {f : Int} {W W1 : World} (h : FmtC f W) (hb : Below W.heap.size W W1) : FmtC f W1 := fun W' hb' s hs => h W' (hb.trans (hb'.mono hb.size)) s hs
/-- what is read: the writer in block q, its style in block qs, its items -/
structure RD (q qs : Nat) (its : List (Nat × ByteArray)) (y : Sty) (vs : ByteArray) (W : World) : Prop where
  c1 : W.cell? ⟨q, 1, none⟩ = some (.string vs)
  c5 : W.cell? ⟨q, 5, none⟩ = some (.pointer (some ⟨qs, 0, none⟩))
  st : ∀ (i : Nat) (u : Value), (styC y)[i]? = some u → W.cell? ⟨qs, i, none⟩ = some u
  it : ∃ (A : Option Addr) (c : Nat), W.cell? ⟨q, 3, none⟩ = some (.slice A its.length c) ∧ ∀ (i : Nat) (x : Nat × ByteArray), its[i]? = some x → ∃ (ad : Addr) (g : Nat), A = some ad ∧ W.cell? (ad.add i) = some (.pointer (some ⟨g, 0, none⟩)) ∧ W.cell? ⟨g, 0, none⟩ = some (.int .i64 (x.1 : Int)) ∧ W.cell? ⟨g, 1, none⟩ = some (.string x.2)
  fm : FmtC y.fm W
theorem RD.below {q qs : Nat} {its : List (Nat × ByteArray)} {y : Sty} {vs : ByteArray} {W W1 : World} (h : RD q qs its y vs W) (hb : Below W.heap.size W W1) : RD q qs its y vs W1 := by
  obtain ⟨h1, h5, hs, ⟨A, c, h3, hi⟩, hf⟩ := h
  refine ⟨pw_cell_below hb h1, pw_cell_below hb h5, fun i u hu => pw_cell_below hb (hs i u hu), ⟨A, c, pw_cell_below hb h3, fun i x hx => ?_⟩, hf.below hb⟩
  obtain ⟨ad, g, e, k1, k2, k3⟩ := hi i x hx
  exact ⟨ad, g, e, pw_cell_below hb k1, pw_cell_below hb k2, pw_cell_below hb k3⟩
def moreF (its : List (Nat × ByteArray)) (lev idx : Nat) : Bool := match (its.drop (idx + 1)).find? (fun x => decide (x.1 ≤ lev)) with
  | some x => decide (x.1 = lev)
  | none => false
theorem more_step (its : List (Nat × ByteArray)) (lev k : Nat) (hk : k < its.length) : ((its.drop k).find? (fun x => decide (x.1 ≤ lev))) = if its[k].1 ≤ lev then some its[k] else (its.drop (k + 1)).find? (fun x => decide (x.1 ≤ lev)) := by
  rw [List.drop_eq_getElem_cons hk, List.find?_cons]
  by_cases h : its[k].1 ≤ lev
  · rw [if_pos h, decide_eq_true h]
  · rw [if_neg h, decide_eq_false h]
theorem more_c (q qs : Nat) (its : List (Nat × ByteArray)) (y : Sty) (vs : ByteArray) (lev idx : Nat) (hl : its.length ≤ 100000) (hi : idx ≤ 100000) (hlv : lev ≤ 100000) (w W : World) (h : RD q qs its y vs w) (hb : Below w.heap.size w W) :
    Calls Tryd.prog 38 #[.pointer (some ⟨q, 0, none⟩), .int .i64 (lev : Int), .int .i64 (idx : Int)] W fun e w' => e = .returned (.bool (moreF its lev idx)) ∧ w' = W := by
  obtain ⟨_, _, _, ⟨A, c, h3, hit⟩, _⟩ := h.below hb
  clear h hb
  have HI := Aside0.mk hit
  clear hit
  have hw0 : wrap64 ((idx : Int) + 1) = ((idx + 1 : Nat) : Int) := by rw [w64 _ (by omega) (by omega)]; omega
  go_enter Tryd.func38, Tryd.ntmps38
  go_wp2
  go_loopw [7] (fun i wr => ∃ k : Nat, Value.int .i64 (k : Int) = i ∧ idx + 1 ≤ k ∧ (its.length ≤ k → k ≤ its.length ∨ k = idx + 1) ∧ Aside0 ((its.drop (idx + 1)).find? (fun x => decide (x.1 ≤ lev)) = (its.drop k).find? (fun x => decide (x.1 ≤ lev))) ∧ wr = W) (fun i _ => its.length + 1 - (intOf i).toNat)
  case atStart => exact ⟨idx + 1, by go_num, by omega, by omega, Aside0.mk rfl, rfl⟩
  case round =>
    obtain ⟨k, rfl, hk1, hk2, HF, rfl⟩ := hrel
    have hd0 : decide ((k : Int) ≥ 0) = true := decide_eq_true (by omega)
    by_cases hlt : k < its.length
    · have hd1 : decide ((k : Int) < (its.length : Int)) = true := decide_eq_true (by omega)
      obtain ⟨ad, g, rfl, e1, e2, e3⟩ := HI.out k its[k] (List.getElem?_eq_getElem hlt)
      have hs := more_step its lev k hlt
      generalize its[k] = x at *
      obtain ⟨m, x2⟩ := x
      dsimp only at *
      have hwk : wrap64 ((k : Int) + 1) = ((k + 1 : Nat) : Int) := by rw [w64 _ (by omega) (by omega)]; omega
      by_cases c1 : m < lev
      · rw [if_pos (by omega)] at hs
        have hd2 : decide ((m : Int) < (lev : Int)) = true := decide_eq_true (by omega)
        have hm : moreF its lev idx = false := by
          unfold moreF
          rw [HF.out, hs]
          exact decide_eq_false (by omega)
        go_wp2
        go_ret
        exact ⟨by rw [hm]; rfl, rfl⟩
      · have hd2 : decide ((m : Int) < (lev : Int)) = false := decide_eq_false (by omega)
        by_cases c2 : m = lev
        · rw [if_pos (by omega)] at hs
          have hd3 : decide ((m : Int) = (lev : Int)) = true := decide_eq_true (by omega)
          have hd4 : ((m : Int) == (lev : Int)) = true := by simp [c2]
          have hm : moreF its lev idx = true := by
            unfold moreF
            rw [HF.out, hs]
            exact decide_eq_true c2
          go_wp2
          go_ret
          exact ⟨by rw [hm]; rfl, rfl⟩
        · rw [if_neg (by omega)] at hs
          have hd3 : decide ((m : Int) = (lev : Int)) = false := decide_eq_false (by omega)
          have hd4 : ((m : Int) == (lev : Int)) = false := by simp; omega
          go_wp2
          go_roundw
          case rel => exact ⟨k + 1, by go_num, by omega, by omega, Aside0.mk (HF.out.trans hs), trivial⟩
          case measure => simp [intOf]; omega
    · have hd1 : decide ((k : Int) < (its.length : Int)) = false := decide_eq_false (by omega)
      have hm : moreF its lev idx = false := by
        unfold moreF
        rw [HF.out, List.drop_eq_nil_of_le (by omega)]
        rfl
      go_wp2
      go_ret
      exact ⟨by rw [hm]; rfl, rfl⟩
end Go.Proofs.YtphnnbbgcnilgaaDoor.LstE

namespace Go.Proofs.YtphnnbbgcnilgaaDoor.LstF
open Go.RowKit Go.Proofs.YtphnnbbgcnilgaaDoorW.PrintWords Go.Proofs.YtphnnbbgcnilgaaDoor.Common Go.Proofs.YtphnnbbgcnilgaaDoor.LstT Go.Proofs.YtphnnbbgcnilgaaDoor.LstA Go.Proofs.YtphnnbbgcnilgaaDoor.LstB Go.Proofs.YtphnnbbgcnilgaaDoor.LstC Go.Proofs.YtphnnbbgcnilgaaDoor.LstE Go.Proofs.YtphnnbbgcnilgaaDoor.Bld
set_option linter.unusedVariables false
set_option linter.unusedSimpArgs false
set_option maxRecDepth 1000000

/-- a style's texts are short -/
def shortY (y : Sty) (vs : ByteArray) : Prop := y.sg.size ≤ 1000 ∧ y.tp.size ≤ 1000 ∧ y.fi.size ≤ 1000 ∧ y.mi.size ≤ 1000 ∧ y.ve.size ≤ 1000 ∧ y.bo.size ≤ 1000 ∧ y.px.size ≤ 1000 ∧ vs.size ≤ 1000
/-- the builder in block Bb holds acc; the list is read as it was -/
structure RB (q qs : Nat) (its : List (Nat × ByteArray)) (y : Sty) (vs : ByteArray) (Bb : Nat) (W0 : World) (acc : List UInt8) (m : Nat) (W : World) : Prop where
  rd : ∀ W, Below Bb W0 W → RD q qs its y vs W
  bs : BS Bb W0 acc m W
section
variable {q qs : Nat} {its : List (Nat × ByteArray)} {y : Sty} {vs : ByteArray} {Bb : Nat} {W0 : World} {acc : List UInt8} {m : Nat} {W : World}
theorem RB.below {W1 : World} (h : RB q qs its y vs Bb W0 acc m W) (hb : Below W.heap.size W W1) : RB q qs its y vs Bb W0 acc m W1 := ⟨h.rd, h.bs.below hb⟩
theorem RB.str (h : RB q qs its y vs Bb W0 acc m W) (s : ByteArray) (hs : s.size ≤ 1000) (hm : m ≤ 10000000000000) :
    Calls Tryd.prog 57 #[.pointer (some ⟨Bb, 0, none⟩), .string s] W fun e w' => ∃ v, e = .returned v ∧ RB q qs its y vs Bb W0 (acc ++ s.data.toList) (m + 1000) w' := by
  refine (wrString s h.bs (by omega)).mono ?_
  rintro e w' ⟨v, rfl, hb⟩
  exact ⟨v, rfl, h.rd, hb.mono rfl (by have := hb.len; omega)⟩
/-- blocks of type 58 stay -/
def K58 (W W1 : World) : Prop := ∀ (g : Nat) (T : Array Value), W.heap[g]? = some (.cells T 77 (0, 0)) → W1.heap[g]? = some (.cells T 77 (0, 0))
theorem K58.trans {W1 W2 : World} (h : K58 W W1) (k : K58 W1 W2) : K58 W W2 := fun g T hg => k g T (h g T hg)
theorem K58.refl (W : World) : K58 W W := fun _ _ h => h
theorem K58.of_below {W1 : World} (h : Below W.heap.size W W1) : K58 W W1 := fun g T hg => (h.block g (Array.getElem?_eq_some_iff.1 hg).1).trans hg
theorem RB.strK (h : RB q qs its y vs Bb W0 acc m W) (s : ByteArray) (hs : s.size ≤ 1000) (hm : m ≤ 10000000000000) :
    Calls Tryd.prog 57 #[.pointer (some ⟨Bb, 0, none⟩), .string s] W fun e w' => ∃ v, e = .returned v ∧ RB q qs its y vs Bb W0 (acc ++ s.data.toList) (m + 1000) w' ∧ K58 W w' := by
  have hlen := h.bs.len
  have hty : ∀ g T, W.heap[g]? = some (.cells T 77 (0, 0)) → g ≠ Bb := fun g T hg e => by
    subst e
    rcases h.bs.isb with ⟨_, v, hv, _⟩ | ⟨_, v, hv, _⟩
    · exact absurd rfl (typed_ne hg hv (by decide))
    · exact absurd rfl (typed_ne hg hv (by decide))
  refine (Tryd.Builder_WriteString_k Bb Bb _ s W h.bs.isb (by rw [Lib.byteCells_length]; omega) h.bs.here).mono ?_
  rintro e w' ⟨rfl, h1, h2, h3⟩
  refine ⟨_, rfl, ⟨h.rd, ?_, h.bs.bel.trans h2, by rw [List.length_append, size_l]; omega, h.bs.lt⟩, fun g T hg => h3 g _ hg (fun e => hty g T hg (by injection e)) (fun c fz e => by injection e with _ e; exact absurd e (by decide))⟩
  rw [Lib.byteCells_append, ← Lib.strCells_eq]
  exact Or.inr h1
theorem RB.rune (h : RB q qs its y vs Bb W0 acc m W) (c : UInt8) (hc : c.toNat < 128) (r : Int) (hr : r = (c.toNat : Int)) (hm : m ≤ 10000000000000) :
    Calls Tryd.prog 51 #[.pointer (some ⟨Bb, 0, none⟩), .int .i32 r] W fun e w' => ∃ v, e = .returned v ∧ RB q qs its y vs Bb W0 (acc ++ [c]) (m + 1) w' := by
  refine (wrRune c hc r hr h.bs (by omega)).mono ?_
  rintro e w' ⟨v, rfl, hb⟩
  exact ⟨v, rfl, h.rd, hb⟩
theorem RB.runeK (h : RB q qs its y vs Bb W0 acc m W) (c : UInt8) (hc : c.toNat < 128) (r : Int) (hr : r = (c.toNat : Int)) (hm : m ≤ 10000000000000) :
    Calls Tryd.prog 51 #[.pointer (some ⟨Bb, 0, none⟩), .int .i32 r] W fun e w' => ∃ v, e = .returned v ∧ RB q qs its y vs Bb W0 (acc ++ [c]) (m + 1) w' ∧ K58 W w' := by
  have hlen := h.bs.len
  have hty : ∀ g T, W.heap[g]? = some (.cells T 77 (0, 0)) → g ≠ Bb := fun g T hg e => by
    subst e
    rcases h.bs.isb with ⟨_, v, hv, _⟩ | ⟨_, v, hv, _⟩
    · exact absurd rfl (typed_ne hg hv (by decide))
    · exact absurd rfl (typed_ne hg hv (by decide))
  refine (Tryd.Builder_WriteRune_k Bb Bb _ r (by omega) (by omega) W h.bs.isb (by rw [Lib.byteCells_length]; omega) h.bs.here).mono ?_
  rintro e w' ⟨rfl, h1, h2, h3⟩
  refine ⟨_, rfl, ⟨h.rd, ?_, h.bs.bel.trans h2, by rw [List.length_append]; simp; omega, h.bs.lt⟩, fun g T hg => h3 g _ hg (fun e => hty g T hg (by injection e)) (fun c fz e => by injection e with _ e; exact absurd e (by decide))⟩
  have e2 : Lib.runeCells r = Lib.byteCells [c] := by
    rw [Lib.runeCells, Lib.encodeRuneZ_one (by omega) (by omega), hr]
    rfl
  rw [Lib.byteCells_append, ← e2]
  exact Or.inr h1
/-- the cells of the style, and the list's two -/
theorem RB.cells (h : RB q qs its y vs Bb W0 acc m W) : W.cell? ⟨q, 1, none⟩ = some (.string vs) ∧ W.cell? ⟨q, 5, none⟩ = some (.pointer (some ⟨qs, 0, none⟩)) ∧ W.cell? ⟨qs, 0, none⟩ = some (.int .i64 y.fm) ∧ W.cell? ⟨qs, 1, none⟩ = some (.string y.sg) ∧ W.cell? ⟨qs, 2, none⟩ = some (.string y.tp) ∧ W.cell? ⟨qs, 3, none⟩ = some (.string y.fi) ∧ W.cell? ⟨qs, 4, none⟩ = some (.string y.mi) ∧ W.cell? ⟨qs, 5, none⟩ = some (.string y.ve) ∧ W.cell? ⟨qs, 6, none⟩ = some (.string y.bo) ∧ W.cell? ⟨qs, 7, none⟩ = some (.string ⟨#[10]⟩) ∧ W.cell? ⟨qs, 8, none⟩ = some (.string y.px) := by
  have r := h.rd W h.bs.bel
  exact ⟨r.c1, r.c5, r.st 0 _ rfl, r.st 1 _ rfl, r.st 2 _ rfl, r.st 3 _ rfl, r.st 4 _ rfl, r.st 5 _ rfl, r.st 6 _ rfl, r.st 7 _ rfl, r.st 8 _ rfl⟩
def bulletF (y : Sty) (t f o l b : Bool) : ByteArray := if o then (if t then y.sg else y.bo) else if t then y.tp else if f then y.fi else if b || l then y.bo else y.mi
theorem single_c (h : RB q qs its y vs Bb W0 acc m W) (hy : shortY y vs) (hm : m ≤ 1000000000000) (t f o l b : Bool) :
    Calls Tryd.prog 76 #[.pointer (some ⟨q, 0, none⟩), .pointer (some ⟨Bb, 0, none⟩), .agg #[.bool t, .bool f, .bool o, .bool l, .bool b]] W fun e w' => ∃ u, e = .returned u ∧ RB q qs its y vs Bb W0 (acc ++ (bulletF y t f o l b).data.toList ++ [32]) (m + 2000) w' := by
  obtain ⟨y1, y2, y3, y4, y5, y6, y7, y8⟩ := hy
  have HB := Aside0.mk h
  clear h
  cases o
  · cases t
    · cases f
      · cases b
        · cases l
          · have e : bulletF y false false false false false = y.mi := by simp [bulletF]
            rw [e]
            clear e
            go_enter Tryd.func76, Tryd.ntmps76
            go_wp2_with (first
              | ((with_reducible refine gate_dst (N := 5) rfl ?_); (try (refine gate_guard (by rfl) ?_; dsimp only)); refine box_event ?hg (N := 5) ?hd (cs := #[.bool false, .bool false, .bool false, .bool false, .bool false]) (t := 77) ?hr ?_; (case hd => rfl); (case hg => rfl); (case hr => first | (go_simp; done) | (go_simp; rfl)); intro gb hgb w10 hbox hb; have HB1 := Aside0.mk (HB.out.below hb); have b0 : w10.cell? ⟨gb, 0, none⟩ = some (.bool false) := (blk_cell hbox 0).trans rfl; have b1 : w10.cell? ⟨gb, 1, none⟩ = some (.bool false) := (blk_cell hbox 1).trans rfl; have b2 : w10.cell? ⟨gb, 2, none⟩ = some (.bool false) := (blk_cell hbox 2).trans rfl; have b3 : w10.cell? ⟨gb, 3, none⟩ = some (.bool false) := (blk_cell hbox 3).trans rfl; have b4 : w10.cell? ⟨gb, 4, none⟩ = some (.bool false) := (blk_cell hbox 4).trans rfl; obtain ⟨c1, c5, s0, s1, s2, s3, s4, s5, s6, s7, s8⟩ := HB1.out.cells; clear hgb hbox hb)
              | (go_at_call 57; refine (HB1.out.str _ y4 (by omega)).mono ?_; rintro e w2 ⟨v2, rfl, hb2⟩; have HB2 := Aside0.mk hb2; clear hb2)
              | (go_at_call 51; refine (HB2.out.rune 32 (by decide) 32 rfl (by omega)).mono ?_; rintro e w3 ⟨v3, rfl, hb3⟩; have HB3 := Aside0.mk hb3; clear hb3))
            go_end0
            exact ⟨_, rfl, HB3.out.rd, HB3.out.bs.mono rfl (by have := HB3.out.bs.len; omega)⟩
          · have e : bulletF y false false false true false = y.bo := by simp [bulletF]
            rw [e]
            clear e
            go_enter Tryd.func76, Tryd.ntmps76
            go_wp2_with (first
              | ((with_reducible refine gate_dst (N := 5) rfl ?_); (try (refine gate_guard (by rfl) ?_; dsimp only)); refine box_event ?hg (N := 5) ?hd (cs := #[.bool false, .bool false, .bool false, .bool true, .bool false]) (t := 77) ?hr ?_; (case hd => rfl); (case hg => rfl); (case hr => first | (go_simp; done) | (go_simp; rfl)); intro gb hgb w10 hbox hb; have HB1 := Aside0.mk (HB.out.below hb); have b0 : w10.cell? ⟨gb, 0, none⟩ = some (.bool false) := (blk_cell hbox 0).trans rfl; have b1 : w10.cell? ⟨gb, 1, none⟩ = some (.bool false) := (blk_cell hbox 1).trans rfl; have b2 : w10.cell? ⟨gb, 2, none⟩ = some (.bool false) := (blk_cell hbox 2).trans rfl; have b3 : w10.cell? ⟨gb, 3, none⟩ = some (.bool true) := (blk_cell hbox 3).trans rfl; have b4 : w10.cell? ⟨gb, 4, none⟩ = some (.bool false) := (blk_cell hbox 4).trans rfl; obtain ⟨c1, c5, s0, s1, s2, s3, s4, s5, s6, s7, s8⟩ := HB1.out.cells; clear hgb hbox hb)
              | (go_at_call 57; refine (HB1.out.str _ y6 (by omega)).mono ?_; rintro e w2 ⟨v2, rfl, hb2⟩; have HB2 := Aside0.mk hb2; clear hb2)
              | (go_at_call 51; refine (HB2.out.rune 32 (by decide) 32 rfl (by omega)).mono ?_; rintro e w3 ⟨v3, rfl, hb3⟩; have HB3 := Aside0.mk hb3; clear hb3))
            go_end0
            exact ⟨_, rfl, HB3.out.rd, HB3.out.bs.mono rfl (by have := HB3.out.bs.len; omega)⟩
        · have e : bulletF y false false false l true = y.bo := by simp [bulletF]
          rw [e]
          clear e
          go_enter Tryd.func76, Tryd.ntmps76
          go_wp2_with (first
            | ((with_reducible refine gate_dst (N := 5) rfl ?_); (try (refine gate_guard (by rfl) ?_; dsimp only)); refine box_event ?hg (N := 5) ?hd (cs := #[.bool false, .bool false, .bool false, .bool l, .bool true]) (t := 77) ?hr ?_; (case hd => rfl); (case hg => rfl); (case hr => first | (go_simp; done) | (go_simp; rfl)); intro gb hgb w10 hbox hb; have HB1 := Aside0.mk (HB.out.below hb); have b0 : w10.cell? ⟨gb, 0, none⟩ = some (.bool false) := (blk_cell hbox 0).trans rfl; have b1 : w10.cell? ⟨gb, 1, none⟩ = some (.bool false) := (blk_cell hbox 1).trans rfl; have b2 : w10.cell? ⟨gb, 2, none⟩ = some (.bool false) := (blk_cell hbox 2).trans rfl; have b3 : w10.cell? ⟨gb, 3, none⟩ = some (.bool l) := (blk_cell hbox 3).trans rfl; have b4 : w10.cell? ⟨gb, 4, none⟩ = some (.bool true) := (blk_cell hbox 4).trans rfl; obtain ⟨c1, c5, s0, s1, s2, s3, s4, s5, s6, s7, s8⟩ := HB1.out.cells; clear hgb hbox hb)
            | (go_at_call 57; refine (HB1.out.str _ y6 (by omega)).mono ?_; rintro e w2 ⟨v2, rfl, hb2⟩; have HB2 := Aside0.mk hb2; clear hb2)
            | (go_at_call 51; refine (HB2.out.rune 32 (by decide) 32 rfl (by omega)).mono ?_; rintro e w3 ⟨v3, rfl, hb3⟩; have HB3 := Aside0.mk hb3; clear hb3))
          go_end0
          exact ⟨_, rfl, HB3.out.rd, HB3.out.bs.mono rfl (by have := HB3.out.bs.len; omega)⟩
      · have e : bulletF y false true false l b = y.fi := by simp [bulletF]
        rw [e]
        clear e
        go_enter Tryd.func76, Tryd.ntmps76
        go_wp2_with (first
          | ((with_reducible refine gate_dst (N := 5) rfl ?_); (try (refine gate_guard (by rfl) ?_; dsimp only)); refine box_event ?hg (N := 5) ?hd (cs := #[.bool false, .bool true, .bool false, .bool l, .bool b]) (t := 77) ?hr ?_; (case hd => rfl); (case hg => rfl); (case hr => first | (go_simp; done) | (go_simp; rfl)); intro gb hgb w10 hbox hb; have HB1 := Aside0.mk (HB.out.below hb); have b0 : w10.cell? ⟨gb, 0, none⟩ = some (.bool false) := (blk_cell hbox 0).trans rfl; have b1 : w10.cell? ⟨gb, 1, none⟩ = some (.bool true) := (blk_cell hbox 1).trans rfl; have b2 : w10.cell? ⟨gb, 2, none⟩ = some (.bool false) := (blk_cell hbox 2).trans rfl; have b3 : w10.cell? ⟨gb, 3, none⟩ = some (.bool l) := (blk_cell hbox 3).trans rfl; have b4 : w10.cell? ⟨gb, 4, none⟩ = some (.bool b) := (blk_cell hbox 4).trans rfl; obtain ⟨c1, c5, s0, s1, s2, s3, s4, s5, s6, s7, s8⟩ := HB1.out.cells; clear hgb hbox hb)
          | (go_at_call 57; refine (HB1.out.str _ y3 (by omega)).mono ?_; rintro e w2 ⟨v2, rfl, hb2⟩; have HB2 := Aside0.mk hb2; clear hb2)
          | (go_at_call 51; refine (HB2.out.rune 32 (by decide) 32 rfl (by omega)).mono ?_; rintro e w3 ⟨v3, rfl, hb3⟩; have HB3 := Aside0.mk hb3; clear hb3))
        go_end0
        exact ⟨_, rfl, HB3.out.rd, HB3.out.bs.mono rfl (by have := HB3.out.bs.len; omega)⟩
    · have e : bulletF y true f false l b = y.tp := by simp [bulletF]
      rw [e]
      clear e
      go_enter Tryd.func76, Tryd.ntmps76
      go_wp2_with (first
        | ((with_reducible refine gate_dst (N := 5) rfl ?_); (try (refine gate_guard (by rfl) ?_; dsimp only)); refine box_event ?hg (N := 5) ?hd (cs := #[.bool true, .bool f, .bool false, .bool l, .bool b]) (t := 77) ?hr ?_; (case hd => rfl); (case hg => rfl); (case hr => first | (go_simp; done) | (go_simp; rfl)); intro gb hgb w10 hbox hb; have HB1 := Aside0.mk (HB.out.below hb); have b0 : w10.cell? ⟨gb, 0, none⟩ = some (.bool true) := (blk_cell hbox 0).trans rfl; have b1 : w10.cell? ⟨gb, 1, none⟩ = some (.bool f) := (blk_cell hbox 1).trans rfl; have b2 : w10.cell? ⟨gb, 2, none⟩ = some (.bool false) := (blk_cell hbox 2).trans rfl; have b3 : w10.cell? ⟨gb, 3, none⟩ = some (.bool l) := (blk_cell hbox 3).trans rfl; have b4 : w10.cell? ⟨gb, 4, none⟩ = some (.bool b) := (blk_cell hbox 4).trans rfl; obtain ⟨c1, c5, s0, s1, s2, s3, s4, s5, s6, s7, s8⟩ := HB1.out.cells; clear hgb hbox hb)
        | (go_at_call 57; refine (HB1.out.str _ y2 (by omega)).mono ?_; rintro e w2 ⟨v2, rfl, hb2⟩; have HB2 := Aside0.mk hb2; clear hb2)
        | (go_at_call 51; refine (HB2.out.rune 32 (by decide) 32 rfl (by omega)).mono ?_; rintro e w3 ⟨v3, rfl, hb3⟩; have HB3 := Aside0.mk hb3; clear hb3))
      go_end0
      exact ⟨_, rfl, HB3.out.rd, HB3.out.bs.mono rfl (by have := HB3.out.bs.len; omega)⟩
  · cases t
    · have e : bulletF y false f true l b = y.bo := by simp [bulletF]
      rw [e]
      clear e
      go_enter Tryd.func76, Tryd.ntmps76
      go_wp2_with (first
        | ((with_reducible refine gate_dst (N := 5) rfl ?_); (try (refine gate_guard (by rfl) ?_; dsimp only)); refine box_event ?hg (N := 5) ?hd (cs := #[.bool false, .bool f, .bool true, .bool l, .bool b]) (t := 77) ?hr ?_; (case hd => rfl); (case hg => rfl); (case hr => first | (go_simp; done) | (go_simp; rfl)); intro gb hgb w10 hbox hb; have HB1 := Aside0.mk (HB.out.below hb); have b0 : w10.cell? ⟨gb, 0, none⟩ = some (.bool false) := (blk_cell hbox 0).trans rfl; have b1 : w10.cell? ⟨gb, 1, none⟩ = some (.bool f) := (blk_cell hbox 1).trans rfl; have b2 : w10.cell? ⟨gb, 2, none⟩ = some (.bool true) := (blk_cell hbox 2).trans rfl; have b3 : w10.cell? ⟨gb, 3, none⟩ = some (.bool l) := (blk_cell hbox 3).trans rfl; have b4 : w10.cell? ⟨gb, 4, none⟩ = some (.bool b) := (blk_cell hbox 4).trans rfl; obtain ⟨c1, c5, s0, s1, s2, s3, s4, s5, s6, s7, s8⟩ := HB1.out.cells; clear hgb hbox hb)
        | (go_at_call 57; refine (HB1.out.str _ y6 (by omega)).mono ?_; rintro e w2 ⟨v2, rfl, hb2⟩; have HB2 := Aside0.mk hb2; clear hb2)
        | (go_at_call 51; refine (HB2.out.rune 32 (by decide) 32 rfl (by omega)).mono ?_; rintro e w3 ⟨v3, rfl, hb3⟩; have HB3 := Aside0.mk hb3; clear hb3))
      go_end0
      exact ⟨_, rfl, HB3.out.rd, HB3.out.bs.mono rfl (by have := HB3.out.bs.len; omega)⟩
    · have e : bulletF y true f true l b = y.sg := by simp [bulletF]
      rw [e]
      clear e
      go_enter Tryd.func76, Tryd.ntmps76
      go_wp2_with (first
        | ((with_reducible refine gate_dst (N := 5) rfl ?_); (try (refine gate_guard (by rfl) ?_; dsimp only)); refine box_event ?hg (N := 5) ?hd (cs := #[.bool true, .bool f, .bool true, .bool l, .bool b]) (t := 77) ?hr ?_; (case hd => rfl); (case hg => rfl); (case hr => first | (go_simp; done) | (go_simp; rfl)); intro gb hgb w10 hbox hb; have HB1 := Aside0.mk (HB.out.below hb); have b0 : w10.cell? ⟨gb, 0, none⟩ = some (.bool true) := (blk_cell hbox 0).trans rfl; have b1 : w10.cell? ⟨gb, 1, none⟩ = some (.bool f) := (blk_cell hbox 1).trans rfl; have b2 : w10.cell? ⟨gb, 2, none⟩ = some (.bool true) := (blk_cell hbox 2).trans rfl; have b3 : w10.cell? ⟨gb, 3, none⟩ = some (.bool l) := (blk_cell hbox 3).trans rfl; have b4 : w10.cell? ⟨gb, 4, none⟩ = some (.bool b) := (blk_cell hbox 4).trans rfl; obtain ⟨c1, c5, s0, s1, s2, s3, s4, s5, s6, s7, s8⟩ := HB1.out.cells; clear hgb hbox hb)
        | (go_at_call 57; refine (HB1.out.str _ y1 (by omega)).mono ?_; rintro e w2 ⟨v2, rfl, hb2⟩; have HB2 := Aside0.mk hb2; clear hb2)
        | (go_at_call 51; refine (HB2.out.rune 32 (by decide) 32 rfl (by omega)).mono ?_; rintro e w3 ⟨v3, rfl, hb3⟩; have HB3 := Aside0.mk hb3; clear hb3))
      go_end0
      exact ⟨_, rfl, HB3.out.rd, HB3.out.bs.mono rfl (by have := HB3.out.bs.len; omega)⟩
end
end Go.Proofs.YtphnnbbgcnilgaaDoor.LstF

namespace Go.Proofs.YtphnnbbgcnilgaaDoor.LstG
open Go.RowKit Go.Proofs.YtphnnbbgcnilgaaDoorW.PrintWords Go.Proofs.YtphnnbbgcnilgaaDoor.Common Go.Proofs.YtphnnbbgcnilgaaDoor.LstT Go.Proofs.YtphnnbbgcnilgaaDoor.LstA Go.Proofs.YtphnnbbgcnilgaaDoor.LstB Go.Proofs.YtphnnbbgcnilgaaDoor.LstC Go.Proofs.YtphnnbbgcnilgaaDoor.LstE Go.Proofs.YtphnnbbgcnilgaaDoor.LstF Go.Proofs.YtphnnbbgcnilgaaDoor.Bld
set_option linter.unusedVariables false
set_option linter.unusedSimpArgs false
set_option maxRecDepth 1000000
section
variable {q qs : Nat} {its : List (Nat × ByteArray)} {y : Sty} {vs : ByteArray} {Bb : Nat} {W0 : World} {acc : List UInt8} {m : Nat} {W : World}
theorem bullet_c (h : RB q qs its y vs Bb W0 acc m W) (hy : shortY y vs) (hm : m ≤ 1000000000000) (t f o l b : Bool) :
    Calls Tryd.prog 56 #[.pointer (some ⟨q, 0, none⟩), .pointer (some ⟨Bb, 0, none⟩), .int .i64 0, .agg #[.bool t, .bool f, .bool o, .bool l, .bool b]] W fun e w' => ∃ u, e = .returned u ∧ RB q qs its y vs Bb W0 (acc ++ (bulletF y t f o l b).data.toList ++ [32]) (m + 2000) w' := by
  have HB := Aside0.mk h
  have HY := Aside0.mk hy
  clear h hy
  go_enter Tryd.func56, Tryd.ntmps56
  go_wp2_with (first
    | ((with_reducible refine gate_dst (N := 7) rfl ?_); (try (refine gate_guard (by rfl) ?_; dsimp only)); refine box_event ?hg (N := 7) ?hd (cs := #[.bool t, .bool f, .bool o, .bool l, .bool b]) (t := 77) ?hr ?_; (case hd => rfl); (case hg => rfl); (case hr => first | (go_simp; done) | (go_simp; rfl)); intro gb hgb w10 hbox hb; have HB1 := Aside0.mk (HB.out.below hb); have b0 : w10.cell? ⟨gb, 0, none⟩ = some (.bool t) := (blk_cell hbox 0).trans rfl; have b1 : w10.cell? ⟨gb, 1, none⟩ = some (.bool f) := (blk_cell hbox 1).trans rfl; have b2 : w10.cell? ⟨gb, 2, none⟩ = some (.bool o) := (blk_cell hbox 2).trans rfl; have b3 : w10.cell? ⟨gb, 3, none⟩ = some (.bool l) := (blk_cell hbox 3).trans rfl; have b4 : w10.cell? ⟨gb, 4, none⟩ = some (.bool b) := (blk_cell hbox 4).trans rfl; clear hgb hbox hb)
    | (go_at_call 76; refine (single_c HB1.out HY.out hm t f o l b).mono ?_; rintro e w2 ⟨v2, rfl, hb2⟩; have HB2 := Aside0.mk hb2; clear hb2))
  go_end0
  exact ⟨_, rfl, HB2.out⟩
def preL (its : List (Nat × ByteArray)) (y : Sty) (vs : ByteArray) (idx j : Nat) : List UInt8 := (List.range j).flatMap fun i => if moreF its i idx then y.ve.data.toList else vs.data.toList
theorem preL_succ (its : List (Nat × ByteArray)) (y : Sty) (vs : ByteArray) (idx j : Nat) : preL its y vs idx (j + 1) = preL its y vs idx j ++ (if moreF its j idx then y.ve.data.toList else vs.data.toList) := by
  unfold preL
  rw [List.range_succ, List.flatMap_append]
  simp
theorem more_r (h : RB q qs its y vs Bb W0 acc m W) (lev idx : Nat) (hl : its.length ≤ 100000) (hi : idx ≤ 100000) (hlv : lev ≤ 100000) :
    Calls Tryd.prog 38 #[.pointer (some ⟨q, 0, none⟩), .int .i64 (lev : Int), .int .i64 (idx : Int)] W fun e w' => e = .returned (.bool (moreF its lev idx)) ∧ w' = W :=
  more_c q qs its y vs lev idx hl hi hlv W W (h.rd W h.bs.bel) (Below.refl _ _)
set_option maxHeartbeats 1000000 in
theorem prefix_loop (h : RB q qs its y vs Bb W0 acc m W) (hy : shortY y vs) (hm : m ≤ 1000000000000) (idx lev : Nat) (hl : its.length ≤ 100000) (hi : idx ≤ 100000) (hlv : lev ≤ 1000) :
    Calls Tryd.prog 55 #[.pointer (some ⟨q, 0, none⟩), .pointer (some ⟨Bb, 0, none⟩), .int .i64 (idx : Int), .int .i64 (lev : Int)] W fun e w' => ∃ u, e = .returned u ∧ RB q qs its y vs Bb W0 (acc ++ y.px.data.toList ++ preL its y vs idx lev) (m + 1000 + 1000 * lev) w' ∧ K58 W w' := by
  obtain ⟨y1, y2, y3, y4, y5, y6, y7, y8⟩ := hy
  have HB := Aside0.mk h
  obtain ⟨c1, c5, s0, s1, s2, s3, s4, s5, s6, s7, s8⟩ := h.cells
  clear h
  by_cases hp : y.px.toList = []
  · have hp1 : (y.px.toList == []) = true := by rw [hp]; rfl
    have hp2 : (!(y.px.toList == [])) = false := by rw [hp1]; rfl
    have HK0 := Aside0.mk (K58.refl W)
    have HE : Aside0 (RB q qs its y vs Bb W0 (acc ++ y.px.data.toList ++ preL its y vs idx 0) (m + 1000 + 1000 * 0) W) := Aside0.mk ⟨HB.out.rd, HB.out.bs.mono (by rw [← tl, hp]; simp [preL]) (by have := HB.out.bs.len; rw [← tl, hp]; simp [preL]; omega)⟩
    go_enter Tryd.func55, Tryd.ntmps55
    go_wp2
    go_loopw [8] (fun i wr => ∃ j : Nat, Value.int .i64 (j : Int) = i ∧ j ≤ lev ∧ Aside0 (RB q qs its y vs Bb W0 (acc ++ y.px.data.toList ++ preL its y vs idx j) (m + 1000 + 1000 * j) wr) ∧ Aside0 (K58 W wr)) (fun i _ => lev - (intOf i).toNat)
    case atStart => exact ⟨0, rfl, by omega, HE, HK0⟩
    case round =>
      obtain ⟨j, rfl, hj, HR, HK⟩ := hrel
      clear c1 c5 s0 s1 s2 s3 s4 s5 s6 s7 s8
      obtain ⟨c1, c5, s0, s1, s2, s3, s4, s5, s6, s7, s8⟩ := HR.out.cells
      by_cases hlt : j < lev
      · have hd : decide ((j : Int) < (lev : Int)) = true := decide_eq_true (by omega)
        have HM := Aside0.mk (more_r HR.out j idx hl hi (by omega))
        have HS := Aside0.mk (preL_succ its y vs idx j)
        cases hb : moreF its j idx with
        | true =>
          rw [hb] at HM HS
          go_wp2_with (first
            | (go_at_call 38; refine HM.out.mono ?_; rintro e w2 ⟨rfl, hw⟩; replace hw := hw.symm; subst hw)
            | (go_at_call 57; refine (HR.out.strK _ y5 (by omega)).mono ?_; rintro e w3 ⟨v3, rfl, hb3, hk3⟩; have HB3 := Aside0.mk hb3; have HK3 := Aside0.mk (HK.out.trans hk3); clear hb3 hk3))
          have HE3 : Aside0 (RB q qs its y vs Bb W0 (acc ++ y.px.data.toList ++ preL its y vs idx (j + 1)) (m + 1000 + 1000 * (j + 1)) w3) := Aside0.mk ⟨HB3.out.rd, HB3.out.bs.mono (by rw [HS.out]; simp) (by have := HB3.out.bs.len; rw [HS.out]; simp at this ⊢; omega)⟩
          go_roundw
          case rel => exact ⟨j + 1, by go_num, by omega, HE3, HK3⟩
          case measure => simp [intOf]; omega
        | false =>
          rw [hb] at HM HS
          go_wp2_with (first
            | (go_at_call 38; refine HM.out.mono ?_; rintro e w2 ⟨rfl, hw⟩; replace hw := hw.symm; subst hw)
            | (go_at_call 57; refine (HR.out.strK _ y8 (by omega)).mono ?_; rintro e w3 ⟨v3, rfl, hb3, hk3⟩; have HB3 := Aside0.mk hb3; have HK3 := Aside0.mk (HK.out.trans hk3); clear hb3 hk3))
          have HE3 : Aside0 (RB q qs its y vs Bb W0 (acc ++ y.px.data.toList ++ preL its y vs idx (j + 1)) (m + 1000 + 1000 * (j + 1)) w3) := Aside0.mk ⟨HB3.out.rd, HB3.out.bs.mono (by rw [HS.out]; simp) (by have := HB3.out.bs.len; rw [HS.out]; simp at this ⊢; omega)⟩
          go_roundw
          case rel => exact ⟨j + 1, by go_num, by omega, HE3, HK3⟩
          case measure => simp [intOf]; omega
      · obtain rfl : j = lev := by omega
        have hd : decide ((j : Int) < (j : Int)) = false := decide_eq_false (by omega)
        go_wp2
        go_end0
        exact ⟨_, rfl, HR.out, HK.out⟩
  · have hp0 : (y.px.toList == []) = false := by simpa using hp
    have hp2 : (!(y.px.toList == [])) = true := by rw [hp0]; rfl
    go_enter Tryd.func55, Tryd.ntmps55
    go_wp2_with (go_at_call 57; refine (HB.out.strK _ y7 (by omega)).mono ?_; rintro e w3 ⟨v3, rfl, hb3, hk3⟩; have HB3 := Aside0.mk hb3; have HK0 := Aside0.mk hk3; clear hb3 hk3)
    have HE : Aside0 (RB q qs its y vs Bb W0 (acc ++ y.px.data.toList ++ preL its y vs idx 0) (m + 1000 + 1000 * 0) w3) := Aside0.mk ⟨HB3.out.rd, HB3.out.bs.mono (by simp [preL]) (by have := HB3.out.bs.len; simp [preL] at this ⊢; omega)⟩
    go_loopw [8] (fun i wr => ∃ j : Nat, Value.int .i64 (j : Int) = i ∧ j ≤ lev ∧ Aside0 (RB q qs its y vs Bb W0 (acc ++ y.px.data.toList ++ preL its y vs idx j) (m + 1000 + 1000 * j) wr) ∧ Aside0 (K58 W wr)) (fun i _ => lev - (intOf i).toNat)
    case atStart => exact ⟨0, rfl, by omega, HE, HK0⟩
    case round =>
      obtain ⟨j, rfl, hj, HR, HK⟩ := hrel
      clear c1 c5 s0 s1 s2 s3 s4 s5 s6 s7 s8
      obtain ⟨c1, c5, s0, s1, s2, s3, s4, s5, s6, s7, s8⟩ := HR.out.cells
      by_cases hlt : j < lev
      · have hd : decide ((j : Int) < (lev : Int)) = true := decide_eq_true (by omega)
        have HM := Aside0.mk (more_r HR.out j idx hl hi (by omega))
        have HS := Aside0.mk (preL_succ its y vs idx j)
        cases hb : moreF its j idx with
        | true =>
          rw [hb] at HM HS
          go_wp2_with (first
            | (go_at_call 38; refine HM.out.mono ?_; rintro e w2 ⟨rfl, hw⟩; replace hw := hw.symm; subst hw)
            | (go_at_call 57; refine (HR.out.strK _ y5 (by omega)).mono ?_; rintro e w3 ⟨v3, rfl, hb3, hk3⟩; have HB3 := Aside0.mk hb3; have HK3 := Aside0.mk (HK.out.trans hk3); clear hb3 hk3))
          have HE3 : Aside0 (RB q qs its y vs Bb W0 (acc ++ y.px.data.toList ++ preL its y vs idx (j + 1)) (m + 1000 + 1000 * (j + 1)) w3) := Aside0.mk ⟨HB3.out.rd, HB3.out.bs.mono (by rw [HS.out]; simp) (by have := HB3.out.bs.len; rw [HS.out]; simp at this ⊢; omega)⟩
          go_roundw
          case rel => exact ⟨j + 1, by go_num, by omega, HE3, HK3⟩
          case measure => simp [intOf]; omega
        | false =>
          rw [hb] at HM HS
          go_wp2_with (first
            | (go_at_call 38; refine HM.out.mono ?_; rintro e w2 ⟨rfl, hw⟩; replace hw := hw.symm; subst hw)
            | (go_at_call 57; refine (HR.out.strK _ y8 (by omega)).mono ?_; rintro e w3 ⟨v3, rfl, hb3, hk3⟩; have HB3 := Aside0.mk hb3; have HK3 := Aside0.mk (HK.out.trans hk3); clear hb3 hk3))
          have HE3 : Aside0 (RB q qs its y vs Bb W0 (acc ++ y.px.data.toList ++ preL its y vs idx (j + 1)) (m + 1000 + 1000 * (j + 1)) w3) := Aside0.mk ⟨HB3.out.rd, HB3.out.bs.mono (by rw [HS.out]; simp) (by have := HB3.out.bs.len; rw [HS.out]; simp at this ⊢; omega)⟩
          go_roundw
          case rel => exact ⟨j + 1, by go_num, by omega, HE3, HK3⟩
          case measure => simp [intOf]; omega
      · obtain rfl : j = lev := by omega
        have hd : decide ((j : Int) < (j : Int)) = false := decide_eq_false (by omega)
        go_wp2
        go_end0
        exact ⟨_, rfl, HR.out, HK.out⟩
end
end Go.Proofs.YtphnnbbgcnilgaaDoor.LstG

namespace Go.Proofs.YtphnnbbgcnilgaaDoor.LstH
open Go.RowKit Go.Proofs.YtphnnbbgcnilgaaDoorW.PrintWords Go.Proofs.YtphnnbbgcnilgaaDoor.Common Go.Proofs.YtphnnbbgcnilgaaDoor.LstT Go.Proofs.YtphnnbbgcnilgaaDoor.LstR Go.Proofs.YtphnnbbgcnilgaaDoor.LstA Go.Proofs.YtphnnbbgcnilgaaDoor.LstB Go.Proofs.YtphnnbbgcnilgaaDoor.LstC Go.Proofs.YtphnnbbgcnilgaaDoor.LstE Go.Proofs.YtphnnbbgcnilgaaDoor.LstF Go.Proofs.YtphnnbbgcnilgaaDoor.LstG Go.Proofs.YtphnnbbgcnilgaaDoor.FmA Go.Proofs.YtphnnbbgcnilgaaDoor.Bld
set_option linter.unusedVariables false
set_option linter.unusedSimpArgs false
set_option maxRecDepth 1000000
section
variable {q qs : Nat} {its : List (Nat × ByteArray)} {y : Sty} {vs : ByteArray} {Bb : Nat} {W0 : World} {acc : List UInt8} {m : Nat} {W : World}
def itemL (its : List (Nat × ByteArray)) (y : Sty) (vs : ByteArray) (idx lv : Nat) (s : ByteArray) (t f o l b : Bool) : List UInt8 := (if idx = 0 then [] else [10]) ++ y.px.data.toList ++ preL its y vs idx lv ++ (bulletF y t f o l b).data.toList ++ [32] ++ (FF y.fm s).data.toList
set_option maxHeartbeats 2000000 in
theorem item_c (h : RB q qs its y vs Bb W0 acc m W) (hy : shortY y vs) (hm : m ≤ 100000000000) (idx lv g : Nat) (s : ByteArray) (hs : okT y.fm s) (hl : its.length ≤ 100000) (hi : idx ≤ 100000) (hlv : lv ≤ 1000) (t f o l b : Bool)
    (hg : ∀ W, Below Bb W0 W → W.cell? ⟨g, 0, none⟩ = some (.int .i64 (lv : Int)) ∧ W.cell? ⟨g, 1, none⟩ = some (.string s)) :
    Calls Tryd.prog 39 #[.pointer (some ⟨q, 0, none⟩), .pointer (some ⟨Bb, 0, none⟩), .int .i64 (idx : Int), .pointer (some ⟨g, 0, none⟩), .agg #[.bool t, .bool f, .bool o, .bool l, .bool b]] W fun e w' => ∃ u, e = .returned u ∧ RB q qs its y vs Bb W0 (acc ++ itemL its y vs idx lv s t f o l b) (m + 1010000) w' := by
  have HB := Aside0.mk h
  have HY := Aside0.mk hy
  have HG := Aside0.mk hg
  have HGd := Aside0.mk hs
  have HOK := Aside0.mk hs
  have hgf := FF_good _ _ hs
  have HH := fun W => Aside0.mk (has_c (FF y.fm s) hgf W)
  have HSp := fun W => Aside0.mk (split_c (FF y.fm s) hgf W)
  have hs1 := hgf.1
  clear h hy hg hs hgf
  by_cases hz : idx = 0
  · subst hz
    go_enter Tryd.func39, Tryd.ntmps39
    go_wp2_with (first | ((with_reducible refine gate_dst (N := 9) rfl ?_); (try (refine gate_guard (by rfl) ?_; dsimp only)); refine box_event ?hg (N := 9) ?hd (cs := #[.bool t, .bool f, .bool o, .bool l, .bool b]) (t := 77) ?hr ?_; (case hd => rfl); (case hg => rfl); (case hr => first | (go_simp; done) | (go_simp; rfl)); intro gb hgb w10 hbox hb; have HB1 := Aside0.mk (HB.out.below hb); have HBX := Aside0.mk hbox; clear hgb hbox hb))
    have HBY := HBX
    have HB2 := Aside0.mk (show RB q qs its y vs Bb W0 (acc ++ []) (m + 1) w10 from ⟨HB1.out.rd, HB1.out.bs.mono (by simp) (by have := HB1.out.bs.len; simp; omega)⟩)
    obtain ⟨c1, c5, s0, s1, s2, s3, s4, s5, s6, s7, s8⟩ := HB2.out.cells
    obtain ⟨g0, g1⟩ := HG.out _ HB2.out.bs.bel
    have HFM := Aside0.mk (HB2.out.rd _ HB2.out.bs.bel).fm
    refine wp_region_held_drew (S := fun w' => Below w10.heap.size w10 w') (by kernel_rfl) ((Below.refl _ _).drew) (fun hHeld => ?_)
    refine tk0 (v := ?_) (by kernel_rfl) (by kernel_rfl) (by kernel_rfl) (fun _ _ _ h => h) (Or.inl ⟨by rfl, ?_⟩) hHeld ?_
    rotate_left
    · (intro w hSw; have hc5 := pw_cell_below hSw c5; have hs0 := pw_cell_below hSw s0; have hg1 := pw_cell_below hSw g1; go_simp; try with_reducible rfl)
    try simp only [Act.put, List.setIfInBounds_toArray, List.set_cons_zero, List.set_cons_succ]
    refine tk1 (v := ?_) (by kernel_rfl) (by kernel_rfl) (by kernel_rfl) (fun _ _ _ h => h) (Or.inl ⟨by rfl, ?_⟩) hHeld ?_
    rotate_left
    · (intro w hSw; have hc5 := pw_cell_below hSw c5; have hs0 := pw_cell_below hSw s0; have hg1 := pw_cell_below hSw g1; go_simp; try with_reducible rfl)
    try simp only [Act.put, List.setIfInBounds_toArray, List.set_cons_zero, List.set_cons_succ]
    refine tk2 (v := ?_) (by kernel_rfl) (by kernel_rfl) (by kernel_rfl) (fun _ _ _ h => h) (Or.inl ⟨by rfl, ?_⟩) hHeld ?_
    rotate_left
    · (intro w hSw; have hc5 := pw_cell_below hSw c5; have hs0 := pw_cell_below hSw s0; have hg1 := pw_cell_below hSw g1; go_simp; try with_reducible rfl)
    try simp only [Act.put, List.setIfInBounds_toArray, List.set_cons_zero, List.set_cons_succ]
    refine tk3 (v := ?_) (by kernel_rfl) (by kernel_rfl) (by kernel_rfl) (fun _ _ _ h => h) (Or.inl ⟨by rfl, ?_⟩) hHeld ?_
    rotate_left
    · (intro w hSw; have hc5 := pw_cell_below hSw c5; have hs0 := pw_cell_below hSw s0; have hg1 := pw_cell_below hSw g1; go_simp; try with_reducible rfl)
    try simp only [Act.put, List.setIfInBounds_toArray, List.set_cons_zero, List.set_cons_succ]
    refine tk4 (v := ?_) (by kernel_rfl) (by kernel_rfl) (by kernel_rfl) (fun _ _ _ h => h) (Or.inl ⟨by rfl, ?_⟩) hHeld ?_
    rotate_left
    · (intro w hSw; have hc5 := pw_cell_below hSw c5; have hs0 := pw_cell_below hSw s0; have hg1 := pw_cell_below hSw g1; go_simp; try with_reducible rfl)
    try simp only [Act.put, List.setIfInBounds_toArray, List.set_cons_zero, List.set_cons_succ]
    refine tk5 (v := ?_) (by kernel_rfl) (by kernel_rfl) (by kernel_rfl) (fun _ _ _ h => h) (Or.inl ⟨by rfl, ?_⟩) hHeld ?_
    rotate_left
    · (intro w hSw; have hc5 := pw_cell_below hSw c5; have hs0 := pw_cell_below hSw s0; have hg1 := pw_cell_below hSw g1; go_simp; try with_reducible rfl)
    try simp only [Act.put, List.setIfInBounds_toArray, List.set_cons_zero, List.set_cons_succ]
    refine tk6 (v := ?_) (by kernel_rfl) (by kernel_rfl) (by kernel_rfl) (fun _ _ _ h => h) (Or.inl ⟨by rfl, ?_⟩) hHeld ?_
    rotate_left
    · (intro w hSw; have hc5 := pw_cell_below hSw c5; have hs0 := pw_cell_below hSw s0; have hg1 := pw_cell_below hSw g1; go_simp; try with_reducible rfl)
    try simp only [Act.put, List.setIfInBounds_toArray, List.set_cons_zero, List.set_cons_succ]
    refine tk7 (v := ?_) (by kernel_rfl) (by kernel_rfl) (by kernel_rfl) (fun _ _ _ h => h) (Or.inl ⟨by rfl, ?_⟩) hHeld ?_
    rotate_left
    · (intro w hSw; have hc5 := pw_cell_below hSw c5; have hs0 := pw_cell_below hSw s0; have hg1 := pw_cell_below hSw g1; go_simp; try with_reducible rfl)
    try simp only [Act.put, List.setIfInBounds_toArray, List.set_cons_zero, List.set_cons_succ]
    refine tk8 (v := ?_) (by kernel_rfl) (by kernel_rfl) (by kernel_rfl) (fun _ _ _ h => h) (Or.inl ⟨by rfl, ?_⟩) hHeld ?_
    rotate_left
    · (intro w hSw; have hc5 := pw_cell_below hSw c5; have hs0 := pw_cell_below hSw s0; have hg1 := pw_cell_below hSw g1; go_simp; try with_reducible rfl)
    try simp only [Act.put, List.setIfInBounds_toArray, List.set_cons_zero, List.set_cons_succ]
    refine tk9 (v := ?_) (by kernel_rfl) (by kernel_rfl) (by kernel_rfl) (fun _ _ _ h => h) (Or.inl ⟨by rfl, ?_⟩) hHeld ?_
    rotate_left
    · (intro w hSw; have hc5 := pw_cell_below hSw c5; have hs0 := pw_cell_below hSw s0; have hg1 := pw_cell_below hSw g1; go_simp; try with_reducible rfl)
    try simp only [Act.put, List.setIfInBounds_toArray, List.set_cons_zero, List.set_cons_succ]
    refine tk10 (v := ?_) (by kernel_rfl) (by kernel_rfl) (by kernel_rfl) (fun _ _ _ h => h) (Or.inl ⟨by rfl, ?_⟩) hHeld ?_
    rotate_left
    · (intro w hSw; have hc5 := pw_cell_below hSw c5; have hs0 := pw_cell_below hSw s0; have hg1 := pw_cell_below hSw g1; go_simp; try with_reducible rfl)
    try simp only [Act.put, List.setIfInBounds_toArray, List.set_cons_zero, List.set_cons_succ]
    refine ac11 (by kernel_rfl) (fun K hK => ?_)
    go_simp
    (go_at_call 27; refine (HFM.out _ hHeld s HOK.out).mono ?_; rintro e w4 ⟨rfl, hb4⟩; have HB4 := Aside0.mk hb4; clear hb4)
    try go_wp2_with fail
    refine hK.out _ _ (hHeld.trans (HB4.out.mono hHeld.size)) (fun hHeld => ?_)
    clear hK K
    try simp only [Act.put, List.setIfInBounds_toArray, List.set_cons_zero, List.set_cons_succ]
    refine tk12 (v := ?_) (by kernel_rfl) (by kernel_rfl) (by kernel_rfl) (fun _ _ _ h => h) (Or.inl ⟨by rfl, ?_⟩) hHeld ?_
    rotate_left
    · (intro w hSw; have hc5 := pw_cell_below hSw c5; have hs0 := pw_cell_below hSw s0; have hg1 := pw_cell_below hSw g1; go_simp; try with_reducible rfl)
    try simp only [Act.put, List.setIfInBounds_toArray, List.set_cons_zero, List.set_cons_succ]
    refine wpAnyH_done (by kernel_rfl) ?_ _
    have HBZ := Aside0.mk (HB2.out.below hHeld)
    have HBN := fun n => Aside0.mk (HBZ.out.below (pw_below_drewN (Below.refl _ _) n))
    have HBY := Aside0.mk ((hHeld.block gb (Array.getElem?_eq_some_iff.1 HBY.out).1).trans HBY.out)
    go_wp2_with (first
      | (go_at_call 52; refine (HH _).out.mono ?_; rintro e w5 ⟨rfl, hd⟩; obtain ⟨nd, rfl⟩ := hd)
      | (go_at_call 54; refine (HSp _).out.mono ?_; rintro e ws ⟨v6, rfl, hr6, hb6⟩; obtain ⟨A6, c6, rfl, _, hC6⟩ := Kd.R_reads hr6; have HB6 := Aside0.mk ((HBN _).out.below hb6); have HC6 := Aside0.mk hC6; have HX6 := Aside0.mk (K58.of_below hb6 gb _ HBY.out); clear hr6 hb6 hC6))
    obtain ⟨ad6, cc6, rfl, _, hK6, hcc6⟩ := Kd.C_get HC6.out (⟨#[]⟩ : ByteArray) 0 (by omega) (by simp)
    have hK7 : cc6 = [.string (FF y.fm s)] := hK6
    subst hK7
    have hel := hcc6 0 _ rfl
    rw [show ((0 : Int).toNat * Kd.string.sz + 0) = 0 from rfl] at hel
    rw [show ad6.add 0 = ad6 by obtain ⟨b, o, e⟩ := ad6; cases e <;> simp [Addr.add]] at hel
    clear hcc6 hK6 HC6 HBN HH HSp HFM HOK hHeld
    clear c1 c5 s0 s1 s2 s3 s4 s5 s6 s7 s8 g0 g1
    have hg6 := (HG.out _ HB6.out.bs.bel).1
    go_loopw [53] (fun i wr => ∃ k : Nat, Value.int .i64 (k : Int) = i ∧ ((k = 0 ∧ wr = ws) ∨ (k = 1 ∧ Aside0 (RB q qs its y vs Bb W0 (acc ++ itemL its y vs 0 lv s t f o l b) (m + 1010000) wr)))) (fun i _ => 1 - (intOf i).toNat)
    case atStart => exact ⟨0, rfl, .inl ⟨rfl, rfl⟩⟩
    case round =>
      obtain ⟨k, rfl, hrel⟩ := hrel
      rcases hrel with ⟨rfl, hw⟩ | ⟨rfl, HF⟩
      · replace hw := hw.symm
        subst hw
        go_wp2_with (first
          | (go_at_call 55; refine (prefix_loop HB6.out HY.out (by omega) 0 lv hl hi hlv).mono ?_; rintro e w7 ⟨u7, rfl, hp7, hk7⟩; have HP7 := Aside0.mk hp7; have hx7 := hk7 gb _ HX6.out; have b0 : w7.cell? ⟨gb, 0, none⟩ = some (.bool t) := (blk_cell hx7 0).trans rfl; have b1 : w7.cell? ⟨gb, 1, none⟩ = some (.bool f) := (blk_cell hx7 1).trans rfl; have b2 : w7.cell? ⟨gb, 2, none⟩ = some (.bool o) := (blk_cell hx7 2).trans rfl; have b3 : w7.cell? ⟨gb, 3, none⟩ = some (.bool l) := (blk_cell hx7 3).trans rfl; have b4 : w7.cell? ⟨gb, 4, none⟩ = some (.bool b) := (blk_cell hx7 4).trans rfl; clear hp7 hk7 hx7)
          | (go_at_call 56; refine (bullet_c HP7.out HY.out (by omega) t f o l b).mono ?_; rintro e w8 ⟨u8, rfl, hb8⟩; have HB8 := Aside0.mk hb8; clear hb8)
          | (go_at_call 57; refine (HB8.out.str (FF y.fm s) hs1 (by omega)).mono ?_; rintro e w9 ⟨u9, rfl, hb9⟩; have HB9 := Aside0.mk hb9; clear hb9))
        have HE : Aside0 (RB q qs its y vs Bb W0 (acc ++ itemL its y vs 0 lv s t f o l b) (m + 1010000) w9) := Aside0.mk ⟨HB9.out.rd, HB9.out.bs.mono (by simp [itemL, List.append_assoc]) (by have := HB9.out.bs.len; simp [itemL, List.append_assoc] at this ⊢; omega)⟩
        go_roundw
        case rel => exact ⟨1, by go_num, .inr ⟨rfl, HE⟩⟩
        case measure => simp [intOf]
      · go_wp2
        go_end0
        exact ⟨_, rfl, HF.out⟩
  · have hd : decide ((idx : Int) > 0) = true := decide_eq_true (by omega)
    go_enter Tryd.func39, Tryd.ntmps39
    go_wp2_with (first | ((with_reducible refine gate_dst (N := 9) rfl ?_); (try (refine gate_guard (by rfl) ?_; dsimp only)); refine box_event ?hg (N := 9) ?hd (cs := #[.bool t, .bool f, .bool o, .bool l, .bool b]) (t := 77) ?hr ?_; (case hd => rfl); (case hg => rfl); (case hr => first | (go_simp; done) | (go_simp; rfl)); intro gb hgb w10 hbox hb; have HB1 := Aside0.mk (HB.out.below hb); have HBX := Aside0.mk hbox; clear hgb hbox hb) | (go_at_call 51; refine (HB1.out.runeK 10 (by decide) 10 rfl (by omega)).mono ?_; rintro e w11 ⟨v11, rfl, hb11, hk11⟩; have HB11 := Aside0.mk hb11; have HBY := Aside0.mk (hk11 gb _ HBX.out); clear hb11 hk11))
    have HB2 := Aside0.mk (show RB q qs its y vs Bb W0 (acc ++ [10]) (m + 1) w11 from HB11.out)
    obtain ⟨c1, c5, s0, s1, s2, s3, s4, s5, s6, s7, s8⟩ := HB2.out.cells
    obtain ⟨g0, g1⟩ := HG.out _ HB2.out.bs.bel
    have HFM := Aside0.mk (HB2.out.rd _ HB2.out.bs.bel).fm
    refine wp_region_held_drew (S := fun w' => Below w11.heap.size w11 w') (by kernel_rfl) ((Below.refl _ _).drew) (fun hHeld => ?_)
    refine tk0 (v := ?_) (by kernel_rfl) (by kernel_rfl) (by kernel_rfl) (fun _ _ _ h => h) (Or.inl ⟨by rfl, ?_⟩) hHeld ?_
    rotate_left
    · (intro w hSw; have hc5 := pw_cell_below hSw c5; have hs0 := pw_cell_below hSw s0; have hg1 := pw_cell_below hSw g1; go_simp; try with_reducible rfl)
    try simp only [Act.put, List.setIfInBounds_toArray, List.set_cons_zero, List.set_cons_succ]
    refine tk1 (v := ?_) (by kernel_rfl) (by kernel_rfl) (by kernel_rfl) (fun _ _ _ h => h) (Or.inl ⟨by rfl, ?_⟩) hHeld ?_
    rotate_left
    · (intro w hSw; have hc5 := pw_cell_below hSw c5; have hs0 := pw_cell_below hSw s0; have hg1 := pw_cell_below hSw g1; go_simp; try with_reducible rfl)
    try simp only [Act.put, List.setIfInBounds_toArray, List.set_cons_zero, List.set_cons_succ]
    refine tk2 (v := ?_) (by kernel_rfl) (by kernel_rfl) (by kernel_rfl) (fun _ _ _ h => h) (Or.inl ⟨by rfl, ?_⟩) hHeld ?_
    rotate_left
    · (intro w hSw; have hc5 := pw_cell_below hSw c5; have hs0 := pw_cell_below hSw s0; have hg1 := pw_cell_below hSw g1; go_simp; try with_reducible rfl)
    try simp only [Act.put, List.setIfInBounds_toArray, List.set_cons_zero, List.set_cons_succ]
    refine tk3 (v := ?_) (by kernel_rfl) (by kernel_rfl) (by kernel_rfl) (fun _ _ _ h => h) (Or.inl ⟨by rfl, ?_⟩) hHeld ?_
    rotate_left
    · (intro w hSw; have hc5 := pw_cell_below hSw c5; have hs0 := pw_cell_below hSw s0; have hg1 := pw_cell_below hSw g1; go_simp; try with_reducible rfl)
    try simp only [Act.put, List.setIfInBounds_toArray, List.set_cons_zero, List.set_cons_succ]
    refine tk4 (v := ?_) (by kernel_rfl) (by kernel_rfl) (by kernel_rfl) (fun _ _ _ h => h) (Or.inl ⟨by rfl, ?_⟩) hHeld ?_
    rotate_left
    · (intro w hSw; have hc5 := pw_cell_below hSw c5; have hs0 := pw_cell_below hSw s0; have hg1 := pw_cell_below hSw g1; go_simp; try with_reducible rfl)
    try simp only [Act.put, List.setIfInBounds_toArray, List.set_cons_zero, List.set_cons_succ]
    refine tk5 (v := ?_) (by kernel_rfl) (by kernel_rfl) (by kernel_rfl) (fun _ _ _ h => h) (Or.inl ⟨by rfl, ?_⟩) hHeld ?_
    rotate_left
    · (intro w hSw; have hc5 := pw_cell_below hSw c5; have hs0 := pw_cell_below hSw s0; have hg1 := pw_cell_below hSw g1; go_simp; try with_reducible rfl)
    try simp only [Act.put, List.setIfInBounds_toArray, List.set_cons_zero, List.set_cons_succ]
    refine tk6 (v := ?_) (by kernel_rfl) (by kernel_rfl) (by kernel_rfl) (fun _ _ _ h => h) (Or.inl ⟨by rfl, ?_⟩) hHeld ?_
    rotate_left
    · (intro w hSw; have hc5 := pw_cell_below hSw c5; have hs0 := pw_cell_below hSw s0; have hg1 := pw_cell_below hSw g1; go_simp; try with_reducible rfl)
    try simp only [Act.put, List.setIfInBounds_toArray, List.set_cons_zero, List.set_cons_succ]
    refine tk7 (v := ?_) (by kernel_rfl) (by kernel_rfl) (by kernel_rfl) (fun _ _ _ h => h) (Or.inl ⟨by rfl, ?_⟩) hHeld ?_
    rotate_left
    · (intro w hSw; have hc5 := pw_cell_below hSw c5; have hs0 := pw_cell_below hSw s0; have hg1 := pw_cell_below hSw g1; go_simp; try with_reducible rfl)
    try simp only [Act.put, List.setIfInBounds_toArray, List.set_cons_zero, List.set_cons_succ]
    refine tk8 (v := ?_) (by kernel_rfl) (by kernel_rfl) (by kernel_rfl) (fun _ _ _ h => h) (Or.inl ⟨by rfl, ?_⟩) hHeld ?_
    rotate_left
    · (intro w hSw; have hc5 := pw_cell_below hSw c5; have hs0 := pw_cell_below hSw s0; have hg1 := pw_cell_below hSw g1; go_simp; try with_reducible rfl)
    try simp only [Act.put, List.setIfInBounds_toArray, List.set_cons_zero, List.set_cons_succ]
    refine tk9 (v := ?_) (by kernel_rfl) (by kernel_rfl) (by kernel_rfl) (fun _ _ _ h => h) (Or.inl ⟨by rfl, ?_⟩) hHeld ?_
    rotate_left
    · (intro w hSw; have hc5 := pw_cell_below hSw c5; have hs0 := pw_cell_below hSw s0; have hg1 := pw_cell_below hSw g1; go_simp; try with_reducible rfl)
    try simp only [Act.put, List.setIfInBounds_toArray, List.set_cons_zero, List.set_cons_succ]
    refine tk10 (v := ?_) (by kernel_rfl) (by kernel_rfl) (by kernel_rfl) (fun _ _ _ h => h) (Or.inl ⟨by rfl, ?_⟩) hHeld ?_
    rotate_left
    · (intro w hSw; have hc5 := pw_cell_below hSw c5; have hs0 := pw_cell_below hSw s0; have hg1 := pw_cell_below hSw g1; go_simp; try with_reducible rfl)
    try simp only [Act.put, List.setIfInBounds_toArray, List.set_cons_zero, List.set_cons_succ]
    refine ac11 (by kernel_rfl) (fun K hK => ?_)
    go_simp
    (go_at_call 27; refine (HFM.out _ hHeld s HOK.out).mono ?_; rintro e w4 ⟨rfl, hb4⟩; have HB4 := Aside0.mk hb4; clear hb4)
    try go_wp2_with fail
    refine hK.out _ _ (hHeld.trans (HB4.out.mono hHeld.size)) (fun hHeld => ?_)
    clear hK K
    try simp only [Act.put, List.setIfInBounds_toArray, List.set_cons_zero, List.set_cons_succ]
    refine tk12 (v := ?_) (by kernel_rfl) (by kernel_rfl) (by kernel_rfl) (fun _ _ _ h => h) (Or.inl ⟨by rfl, ?_⟩) hHeld ?_
    rotate_left
    · (intro w hSw; have hc5 := pw_cell_below hSw c5; have hs0 := pw_cell_below hSw s0; have hg1 := pw_cell_below hSw g1; go_simp; try with_reducible rfl)
    try simp only [Act.put, List.setIfInBounds_toArray, List.set_cons_zero, List.set_cons_succ]
    refine wpAnyH_done (by kernel_rfl) ?_ _
    have HBZ := Aside0.mk (HB2.out.below hHeld)
    have HBN := fun n => Aside0.mk (HBZ.out.below (pw_below_drewN (Below.refl _ _) n))
    have HBY := Aside0.mk ((hHeld.block gb (Array.getElem?_eq_some_iff.1 HBY.out).1).trans HBY.out)
    go_wp2_with (first
      | (go_at_call 52; refine (HH _).out.mono ?_; rintro e w5 ⟨rfl, hd⟩; obtain ⟨nd, rfl⟩ := hd)
      | (go_at_call 54; refine (HSp _).out.mono ?_; rintro e ws ⟨v6, rfl, hr6, hb6⟩; obtain ⟨A6, c6, rfl, _, hC6⟩ := Kd.R_reads hr6; have HB6 := Aside0.mk ((HBN _).out.below hb6); have HC6 := Aside0.mk hC6; have HX6 := Aside0.mk (K58.of_below hb6 gb _ HBY.out); clear hr6 hb6 hC6))
    obtain ⟨ad6, cc6, rfl, _, hK6, hcc6⟩ := Kd.C_get HC6.out (⟨#[]⟩ : ByteArray) 0 (by omega) (by simp)
    have hK7 : cc6 = [.string (FF y.fm s)] := hK6
    subst hK7
    have hel := hcc6 0 _ rfl
    rw [show ((0 : Int).toNat * Kd.string.sz + 0) = 0 from rfl] at hel
    rw [show ad6.add 0 = ad6 by obtain ⟨b, o, e⟩ := ad6; cases e <;> simp [Addr.add]] at hel
    clear hcc6 hK6 HC6 HBN HH HSp HFM HOK hHeld
    clear c1 c5 s0 s1 s2 s3 s4 s5 s6 s7 s8 g0 g1
    have hg6 := (HG.out _ HB6.out.bs.bel).1
    go_loopw [53] (fun i wr => ∃ k : Nat, Value.int .i64 (k : Int) = i ∧ ((k = 0 ∧ wr = ws) ∨ (k = 1 ∧ Aside0 (RB q qs its y vs Bb W0 (acc ++ itemL its y vs idx lv s t f o l b) (m + 1010000) wr)))) (fun i _ => 1 - (intOf i).toNat)
    case atStart => exact ⟨0, rfl, .inl ⟨rfl, rfl⟩⟩
    case round =>
      obtain ⟨k, rfl, hrel⟩ := hrel
      rcases hrel with ⟨rfl, hw⟩ | ⟨rfl, HF⟩
      · replace hw := hw.symm
        subst hw
        go_wp2_with (first
          | (go_at_call 55; refine (prefix_loop HB6.out HY.out (by omega) idx lv hl hi hlv).mono ?_; rintro e w7 ⟨u7, rfl, hp7, hk7⟩; have HP7 := Aside0.mk hp7; have hx7 := hk7 gb _ HX6.out; have b0 : w7.cell? ⟨gb, 0, none⟩ = some (.bool t) := (blk_cell hx7 0).trans rfl; have b1 : w7.cell? ⟨gb, 1, none⟩ = some (.bool f) := (blk_cell hx7 1).trans rfl; have b2 : w7.cell? ⟨gb, 2, none⟩ = some (.bool o) := (blk_cell hx7 2).trans rfl; have b3 : w7.cell? ⟨gb, 3, none⟩ = some (.bool l) := (blk_cell hx7 3).trans rfl; have b4 : w7.cell? ⟨gb, 4, none⟩ = some (.bool b) := (blk_cell hx7 4).trans rfl; clear hp7 hk7 hx7)
          | (go_at_call 56; refine (bullet_c HP7.out HY.out (by omega) t f o l b).mono ?_; rintro e w8 ⟨u8, rfl, hb8⟩; have HB8 := Aside0.mk hb8; clear hb8)
          | (go_at_call 57; refine (HB8.out.str (FF y.fm s) hs1 (by omega)).mono ?_; rintro e w9 ⟨u9, rfl, hb9⟩; have HB9 := Aside0.mk hb9; clear hb9))
        have HE : Aside0 (RB q qs its y vs Bb W0 (acc ++ itemL its y vs idx lv s t f o l b) (m + 1010000) w9) := Aside0.mk ⟨HB9.out.rd, HB9.out.bs.mono (by simp [itemL, hz, List.append_assoc]) (by have := HB9.out.bs.len; simp [itemL, hz, List.append_assoc] at this ⊢; omega)⟩
        go_roundw
        case rel => exact ⟨1, by go_num, .inr ⟨rfl, HE⟩⟩
        case measure => simp [intOf]
      · go_wp2
        go_end0
        exact ⟨_, rfl, HF.out⟩
end
end Go.Proofs.YtphnnbbgcnilgaaDoor.LstH

namespace Go.Proofs.YtphnnbbgcnilgaaDoor.LstI
open Go.RowKit Go.Proofs.YtphnnbbgcnilgaaDoorW.PrintWords Go.Proofs.YtphnnbbgcnilgaaDoor.Common Go.Proofs.YtphnnbbgcnilgaaDoor.LstT Go.Proofs.YtphnnbbgcnilgaaDoor.LstA Go.Proofs.YtphnnbbgcnilgaaDoor.LstB Go.Proofs.YtphnnbbgcnilgaaDoor.LstC Go.Proofs.YtphnnbbgcnilgaaDoor.LstE Go.Proofs.YtphnnbbgcnilgaaDoor.LstF Go.Proofs.YtphnnbbgcnilgaaDoor.LstG Go.Proofs.YtphnnbbgcnilgaaDoor.Bld
set_option linter.unusedVariables false
set_option linter.unusedSimpArgs false
set_option maxRecDepth 1000000

def dflt : Sty := ⟨⟨#[42]⟩, ⟨#[42]⟩, ⟨#[42]⟩, ⟨#[42]⟩, ⟨#[32, 32]⟩, ⟨#[42]⟩, ⟨#[]⟩, ⟨#[83, 116, 121, 108, 101, 68, 101, 102, 97, 117, 108, 116]⟩, 0⟩
/-- the writer in block q, with a style in block qs -/
structure RS (B : Nat) (w0 : World) (q qs : Nat) (gs : List Nat) (its : List (Nat × ByteArray)) (lev : Nat) (y : Sty) (vs cl : ByteArray) (ap : Nat) (v : Value) (w : World) : Prop where
  hq : w.heap[q]? = some (.cells #[.int .i64 (ap : Int), .string vs, .string cl, v, .int .i64 (lev : Int), .pointer (some ⟨qs, 0, none⟩)] 64 (0, 0))
  hs : w.heap[qs]? = some (.cells (styC y) 53 (0, 0))
  row : Kd.R PK 72 w B (fun _ => True) v gs
  el : ∀ (i g : Nat) (it : Nat × ByteArray), gs[i]? = some g → its[i]? = some it → w.heap[g]? = some (.cells #[.int .i64 (it.1 : Int), .string it.2] 74 (0, 0)) ∧ B ≤ g
  len : gs.length = its.length
  bel : Below B w0 w
  bq : B ≤ q
theorem RS.below {B : Nat} {w0 : World} {q qs : Nat} {gs : List Nat} {its : List (Nat × ByteArray)} {lev : Nat} {y : Sty} {vs cl : ByteArray} {ap : Nat} {v : Value} {w w' : World} (h : RS B w0 q qs gs its lev y vs cl ap v w) (hB : B ≤ w.heap.size) (hb : Below w.heap.size w w') : RS B w0 q qs gs its lev y vs cl ap v w' :=
  ⟨(hb.block _ (Array.getElem?_eq_some_iff.1 h.hq).1).trans h.hq, (hb.block _ (Array.getElem?_eq_some_iff.1 h.hs).1).trans h.hs, Kd.R_below h.row hb, fun i g it h1 h2 => ⟨(hb.block _ (Array.getElem?_eq_some_iff.1 (h.el i g it h1 h2).1).1).trans (h.el i g it h1 h2).1, (h.el i g it h1 h2).2⟩, h.len, h.bel.trans (hb.mono hB), h.bq⟩
/-- one of the writer's own cells is written -/
theorem RS.put {B : Nat} {w0 : World} {q qs : Nat} {gs : List Nat} {its : List (Nat × ByteArray)} {lev : Nat} {y : Sty} {vs cl vs1 cl1 : ByteArray} {ap ap1 : Nat} {v : Value} {w : World} (h : RS B w0 q qs gs its lev y vs cl ap v w) (j : Nat) (u : Value)
    (hu : (#[.int .i64 (ap : Int), .string vs, .string cl, v, .int .i64 (lev : Int), .pointer (some ⟨qs, 0, none⟩)] : Array Value).setIfInBounds j u = #[.int .i64 (ap1 : Int), .string vs1, .string cl1, v, .int .i64 (lev : Int), .pointer (some ⟨qs, 0, none⟩)]) : RS B w0 q qs gs its lev y vs1 cl1 ap1 v (w.setCell ⟨q, j, none⟩ u) := by
  refine ⟨(set_cells w q j _ _ _ h.hq).trans (by rw [hu]), (setCell_block w _ u qs (typed_ne h.hs h.hq (by decide))).trans h.hs, Kd.R_set h.row h.hq pk_ne j _, fun i k it h3 h4 => ?_, h.len, h.bel.setCell h.bq _, h.bq⟩
  have hk := h.el i k it h3 h4
  exact ⟨(setCell_block w _ _ k (typed_ne hk.1 h.hq (by decide))).trans hk.1, hk.2⟩
end Go.Proofs.YtphnnbbgcnilgaaDoor.LstI
