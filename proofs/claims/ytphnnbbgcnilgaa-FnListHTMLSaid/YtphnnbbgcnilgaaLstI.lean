/-
  Proved: what Style of a list writer without a style does. Conditions: none but the writer's state.
-/
import Derived.Test.YtphnnbbgcnilgaaLstC
import Derived.Test.YtphnnbbgcnilgaaGFnListHTMLx0
namespace Go.Proofs.Ytphnnbbgcnilgaa.LstD
open Go.RowKit Go.Proofs.YtphnnbbgcnilgaaW.PrintWords Go.Proofs.YtphnnbbgcnilgaaW.PrintLast Go.Proofs.YtphnnbbgcnilgaaW.PrintMore Go.Proofs.Ytphnnbbgcnilgaa.Common Go.Proofs.Ytphnnbbgcnilgaa.LstT Go.Proofs.Ytphnnbbgcnilgaa.LstA Go.Proofs.Ytphnnbbgcnilgaa.LstB Go.Proofs.Ytphnnbbgcnilgaa.LstC Go.Proofs.Ytphnnbbgcnilgaa.GFnListHTML
set_option linter.unusedVariables false
set_option linter.unusedSimpArgs false
set_option maxRecDepth 1000000

abbrev St := List (Nat × ByteArray) × Nat
instance (s : ByteArray) : Decidable (good s) := by unfold good; infer_instance
def stepF (x : S58) (st : St) : Option St :=
  if x.f0 = 0 then (if good x.f1 then some (st.1 ++ [(st.2, x.f1)], st.2) else none)
  else if x.f0 = 2 then some (st.1, indentF st.1 st.2)
  else if x.f0 = 3 then some (st.1, st.2 - 1)
  else if x.f0 = 5 then some ([], 0)
  else none
def run : List S58 → St → Option St
  | [], st => some st
  | x :: t, st => (stepF x st).bind (run t)
theorem run_at (l : List S58) (q : Nat) (h : q < l.length) (st st1 : St) (hr : run (l.drop q) st = some st1) : ∃ st2, stepF l[q] st = some st2 ∧ run (l.drop (q + 1)) st2 = some st1 := by
  rw [List.drop_eq_getElem_cons h, run] at hr
  exact Option.bind_eq_some_iff.1 hr
theorem rd58 (l : List S58) (q : Nat) (h : q < l.length) : rd_T58 l (q : Int) = l[q] := by
  simp [rd_T58, List.getD_eq_getElem?_getD, List.getElem?_eq_getElem h]
theorem indent_le (its : List (Nat × ByteArray)) (lev : Nat) : indentF its lev ≤ lev + 1 := by
  unfold indentF
  split
  · omega
  · split <;> omega
theorem _root_.Go.Proofs.Ytphnnbbgcnilgaa.LstA.LS.far {B : Nat} {w0 : World} {q : Nat} {gs : List Nat} {its : List (Nat × ByteArray)} {lev : Nat} {v : Value} {w : World} (h : LS B w0 q gs its lev v w) {g : Nat} {T : Array Value} (hg : w.heap[g]? = some (.cells T 58 (0, 0))) (hB : B ≤ g) (i : Nat) (u : Value) :
    LS B w0 q gs its lev v (w.setCell ⟨g, i, none⟩ u) := by
  refine ⟨(setCell_block w _ u q (typed_ne h.hq hg (by decide))).trans h.hq, Kd.R_set h.row hg (fun x hx => ?_) i u, fun j k it h3 h4 => ?_, h.len, h.bel.setCell hB _, h.bq⟩
  · rcases List.mem_cons.1 hx with rfl | hx
    · decide
    · cases hx
  · have hk := h.el j k it h3 h4
    exact ⟨(setCell_block w _ u k (typed_ne hk.1 hg (by decide))).trans hk.1, hk.2⟩
theorem boxed {B : Nat} {w0 : World} {q : Nat} {gs : List Nat} {its : List (Nat × ByteArray)} {lev : Nat} {v : Value} {wr w1 : World} {g : Nat} {T : Array Value} (h : LS B w0 q gs its lev v wr) (hB : B ≤ wr.heap.size) (hg : w1.heap[g]? = some (.cells T 58 (0, 0))) (hgw : wr.heap.size ≤ g) (hb : Below wr.heap.size wr w1) (a b c : Value) :
    LS B w0 q gs its lev v (((w1.setCell ⟨g, 0, none⟩ a).setCell ⟨g, 1, none⟩ b).setCell ⟨g, 2, none⟩ c) := by
  have hBg : B ≤ g := Nat.le_trans hB hgw
  have e1 := set_cells w1 g 0 _ _ a hg
  have e2 := set_cells _ g 1 _ _ b e1
  exact (((h.below hB hb).far hg hBg 0 a).far e1 hBg 1 b).far e2 hBg 2 c
theorem listOf_c (l : List S58) (st : St) (hrun : run l ([], 0) = some st) (hl : l.length ≤ 20000) (A : Option Addr) (c : Nat) (w : World) (hr : Kd.C k58 w A l.length l) :
    Calls Try.prog 21 #[.slice A l.length c] w fun e w' => ∃ q gs v, e = .returned (.pointer (some ⟨q, 0, none⟩)) ∧ w.heap.size ≤ w'.heap.size ∧ LS w.heap.size w q gs st.1 st.2 v w' := by
  have HC : ∀ q : Nat, q < l.length → Aside0 (∃ ad A2 c2, A = some ad ∧ w.cell? (ad.add (q * 3)) = some (.int .i64 (rd_T58 l (q : Int)).f0) ∧ w.cell? ⟨(ad.add (q * 3)).block, (ad.add (q * 3)).off + 1, none⟩ = some (.string (rd_T58 l (q : Int)).f1) ∧ w.cell? ⟨(ad.add (q * 3)).block, (ad.add (q * 3)).off + 2, none⟩ = some (.slice A2 (rd_T58 l (q : Int)).f2.length c2)) := fun q hq => by
    obtain ⟨ad, A2, c2, e, h0, h1, h2, _⟩ := at_T58 hr (q : Int) (by omega) (by omega)
    rw [Int.toNat_natCast] at h0 h1 h2
    exact Aside0.mk ⟨ad, A2, c2, e, h0, h1, h2⟩
  obtain ⟨W1, hW1⟩ : ∃ W1, W1 = w.alloc (.cells #[.int .i64 0, .string ⟨#[]⟩, .string ⟨#[]⟩, .slice none 0 0, .int .i64 0, .pointer none] 79) := ⟨_, rfl⟩
  have hW := Aside0.mk hW1
  have HS : Aside0 (LS w.heap.size w w.heap.size [] [] 0 (.slice none 0 0) W1) := by
    rw [hW1]
    exact ⟨heap_alloc_new w _, Kd.R_nil _ _ _ _ _, fun i g it h => by simp at h, rfl, below_alloc (Below.refl _ _) _, Nat.le_refl _⟩
  have HZ1 : Aside0 (w.heap.size ≤ W1.heap.size) := by
    rw [hW1]
    exact Aside0.mk (by rw [World.size_alloc]; omega)
  clear hr hW1
  go_enter Try.func21, Try.ntmps21
  go_wp2
  go_loopw [13] (fun i wr => ∃ (q : Nat) (its : List (Nat × ByteArray)) (lev : Nat) (gs : List Nat) (v : Value), Value.int .i64 (q : Int) = i ∧ q ≤ l.length ∧ its.length ≤ q ∧ lev ≤ q ∧ Aside0 (run (l.drop q) (its, lev) = some st) ∧ Aside0 (LS w.heap.size w w.heap.size gs its lev v wr)) (fun i _ => l.length - (intOf i).toNat)
  case atStart =>
    rw [← hW.out]
    exact ⟨0, [], 0, [], _, rfl, by omega, by simp, by omega, Aside0.mk (by rw [List.drop_zero]; exact hrun), HS⟩
  case round =>
    obtain ⟨q, its, lev, gs, v, rfl, hq, hitn, hlev, HRN, HL⟩ := hrel
    clear hrun HS
    by_cases hlt : q < l.length
    · obtain ⟨ad, A2, c2, rfl, hx0, hx1, hx2⟩ := (HC q hlt).out
      obtain ⟨⟨its2, lev2⟩, hst, hrn2⟩ := run_at l q hlt _ _ HRN.out
      have hsz := HL.out.bel.size
      replace hx0 := (HL.out.bel.cell (World.block_lt_of_cell? w _ hx0)).trans hx0
      replace hx1 := (HL.out.bel.cell (World.block_lt_of_cell? w _ hx1)).trans hx1
      replace hx2 := (HL.out.bel.cell (World.block_lt_of_cell? w _ hx2)).trans hx2
      rw [← rd58 l q hlt] at hst
      have HLV := fun w1 g T hg hgw hb a b c => Aside0.mk (boxed (w1 := w1) (g := g) (T := T) HL.out hsz hg hgw hb a b c)
      have HSZ := Aside0.mk hsz
      have HRN2 := Aside0.mk hrn2
      have hglen : gs.length = its.length := HL.out.len
      clear HC hrn2 hsz
      generalize rd_T58 l (q : Int) = x at *
      obtain ⟨x0, x1, x2⟩ := x
      unfold stepF at hst
      dsimp only at *
      by_cases k0 : x0 = 0
      · subst k0
        rw [if_pos rfl] at hst
        by_cases hgd : good x1
        · rw [if_pos hgd] at hst
          cases hst
          have HG := Aside0.mk hgd
          go_wp2_with (first
            | ((with_reducible refine gate_dst (N := 5) rfl ?_); (try (refine gate_guard (by rfl) ?_; dsimp only)); refine box_event ?hg (N := 5) ?hd (cs := #[.int .i64 0, .string (⟨#[]⟩ : ByteArray), .slice none 0 0]) (t := 58) ?hr ?_; (case hd => rfl); (case hg => rfl); (case hr => first | (go_simp; done) | (go_simp; rfl)); intro gb hgb w10 hbox hb; have HGB := Aside0.mk hgb; have HBX := Aside0.mk hbox; have HBB := Aside0.mk hb; clear hgb hbox hb; have hcz0 : w10.cell? ⟨gb, 0, none⟩ = some (.int .i64 0) := (blk_cell HBX.out 0).trans rfl; have hcz1 : w10.cell? ⟨gb, 1, none⟩ = some (.string (⟨#[]⟩ : ByteArray)) := (blk_cell HBX.out 1).trans rfl; have hcz2 : w10.cell? ⟨gb, 2, none⟩ = some (.slice none 0 0) := (blk_cell HBX.out 2).trans rfl; have hfz0 := blk_frozen HBX.out 0; have hfz1 := blk_frozen HBX.out 1; have hfz2 := blk_frozen HBX.out 2; have HLX := fun a b c => HLV w10 gb _ HBX.out (Nat.le_of_eq HGB.out.symm) HBB.out a b c)
            | (go_at_call 40; refine (append_c (HLX _ _ _).out (HLX _ _ _).out.bel.size x1 HG.out (by omega)).mono ?_; rintro e w2 ⟨u, rfl, g1, v1, hls⟩; have HLS := Aside0.mk hls; clear hls))
          go_roundw
          case rel => exact ⟨q + 1, _, _, _, _, by go_num, by omega, by simp; omega, by omega, HRN2, HLS⟩
          case measure => simp [intOf]; omega
        · rw [if_neg hgd] at hst
          cases hst
      · rw [if_neg k0] at hst
        by_cases k2 : x0 = 2
        · subst k2
          rw [if_pos rfl] at hst
          cases hst
          go_wp2_with (first
            | ((with_reducible refine gate_dst (N := 5) rfl ?_); (try (refine gate_guard (by rfl) ?_; dsimp only)); refine box_event ?hg (N := 5) ?hd (cs := #[.int .i64 0, .string (⟨#[]⟩ : ByteArray), .slice none 0 0]) (t := 58) ?hr ?_; (case hd => rfl); (case hg => rfl); (case hr => first | (go_simp; done) | (go_simp; rfl)); intro gb hgb w10 hbox hb; have HGB := Aside0.mk hgb; have HBX := Aside0.mk hbox; have HBB := Aside0.mk hb; clear hgb hbox hb; have hcz0 : w10.cell? ⟨gb, 0, none⟩ = some (.int .i64 0) := (blk_cell HBX.out 0).trans rfl; have hcz1 : w10.cell? ⟨gb, 1, none⟩ = some (.string (⟨#[]⟩ : ByteArray)) := (blk_cell HBX.out 1).trans rfl; have hcz2 : w10.cell? ⟨gb, 2, none⟩ = some (.slice none 0 0) := (blk_cell HBX.out 2).trans rfl; have hfz0 := blk_frozen HBX.out 0; have hfz1 := blk_frozen HBX.out 1; have hfz2 := blk_frozen HBX.out 2; have HLX := fun a b c => HLV w10 gb _ HBX.out (Nat.le_of_eq HGB.out.symm) HBB.out a b c)
            | (go_at_call 42; refine (indent_c (HLX _ _ _).out (HLX _ _ _).out.bel.size (by omega) (by omega)).mono ?_; rintro e w2 ⟨u, rfl, hls⟩; have HLS := Aside0.mk hls; clear hls))
          go_roundw
          case rel => exact ⟨q + 1, _, _, _, _, by go_num, by omega, by omega, by have := indent_le its lev; omega, HRN2, HLS⟩
          case measure => simp [intOf]; omega
        · rw [if_neg k2] at hst
          by_cases k3 : x0 = 3
          · subst k3
            rw [if_pos rfl] at hst
            cases hst
            go_wp2_with (first
              | ((with_reducible refine gate_dst (N := 5) rfl ?_); (try (refine gate_guard (by rfl) ?_; dsimp only)); refine box_event ?hg (N := 5) ?hd (cs := #[.int .i64 0, .string (⟨#[]⟩ : ByteArray), .slice none 0 0]) (t := 58) ?hr ?_; (case hd => rfl); (case hg => rfl); (case hr => first | (go_simp; done) | (go_simp; rfl)); intro gb hgb w10 hbox hb; have HGB := Aside0.mk hgb; have HBX := Aside0.mk hbox; have HBB := Aside0.mk hb; clear hgb hbox hb; have hcz0 : w10.cell? ⟨gb, 0, none⟩ = some (.int .i64 0) := (blk_cell HBX.out 0).trans rfl; have hcz1 : w10.cell? ⟨gb, 1, none⟩ = some (.string (⟨#[]⟩ : ByteArray)) := (blk_cell HBX.out 1).trans rfl; have hcz2 : w10.cell? ⟨gb, 2, none⟩ = some (.slice none 0 0) := (blk_cell HBX.out 2).trans rfl; have hfz0 := blk_frozen HBX.out 0; have hfz1 := blk_frozen HBX.out 1; have hfz2 := blk_frozen HBX.out 2; have HLX := fun a b c => HLV w10 gb _ HBX.out (Nat.le_of_eq HGB.out.symm) HBB.out a b c)
              | (go_at_call 43; refine (unindent_c (HLX _ _ _).out (by omega)).mono ?_; rintro e w2 ⟨u, rfl, hls⟩; have HLS := Aside0.mk hls; clear hls))
            go_roundw
            case rel => exact ⟨q + 1, _, _, _, _, by go_num, by omega, by omega, by omega, HRN2, HLS⟩
            case measure => simp [intOf]; omega
          · rw [if_neg k3] at hst
            by_cases k5 : x0 = 5
            · subst k5
              rw [if_pos rfl] at hst
              cases hst
              go_wp2_with (first
                | ((with_reducible refine gate_dst (N := 5) rfl ?_); (try (refine gate_guard (by rfl) ?_; dsimp only)); refine box_event ?hg (N := 5) ?hd (cs := #[.int .i64 0, .string (⟨#[]⟩ : ByteArray), .slice none 0 0]) (t := 58) ?hr ?_; (case hd => rfl); (case hg => rfl); (case hr => first | (go_simp; done) | (go_simp; rfl)); intro gb hgb w10 hbox hb; have HGB := Aside0.mk hgb; have HBX := Aside0.mk hbox; have HBB := Aside0.mk hb; clear hgb hbox hb; have hcz0 : w10.cell? ⟨gb, 0, none⟩ = some (.int .i64 0) := (blk_cell HBX.out 0).trans rfl; have hcz1 : w10.cell? ⟨gb, 1, none⟩ = some (.string (⟨#[]⟩ : ByteArray)) := (blk_cell HBX.out 1).trans rfl; have hcz2 : w10.cell? ⟨gb, 2, none⟩ = some (.slice none 0 0) := (blk_cell HBX.out 2).trans rfl; have hfz0 := blk_frozen HBX.out 0; have hfz1 := blk_frozen HBX.out 1; have hfz2 := blk_frozen HBX.out 2; have HLX := fun a b c => HLV w10 gb _ HBX.out (Nat.le_of_eq HGB.out.symm) HBB.out a b c)
                | (go_at_call 45; refine (reset_c (HLX _ _ _).out (HLX _ _ _).out.bel.size).mono ?_; rintro e w2 ⟨u, rfl, v1, hls⟩; have HLS := Aside0.mk hls; clear hls))
              go_roundw
              case rel => exact ⟨q + 1, _, _, _, _, by go_num, by omega, by simp, by omega, HRN2, HLS⟩
              case measure => simp [intOf]; omega
            · rw [if_neg k5] at hst
              cases hst
    · obtain rfl : q = l.length := by omega
      have e := HRN.out
      rw [List.drop_length] at e
      cases e
      go_wp2
      go_ret
      exact ⟨_, rfl, HL.out.bel.size, gs, v, HL.out⟩
end Go.Proofs.Ytphnnbbgcnilgaa.LstD

namespace Go.Proofs.Ytphnnbbgcnilgaa.LstE
open Go.RowKit Go.Proofs.YtphnnbbgcnilgaaW.PrintWords Go.Proofs.Ytphnnbbgcnilgaa.Common Go.Proofs.Ytphnnbbgcnilgaa.LstT Go.Proofs.Ytphnnbbgcnilgaa.LstA Go.Proofs.Ytphnnbbgcnilgaa.LstB Go.Proofs.Ytphnnbbgcnilgaa.LstC
set_option linter.unusedVariables false
set_option linter.unusedSimpArgs false
set_option maxRecDepth 1000000

/-- a style's texts (its new line a line feed, its format the default one) -/
structure Sty where
  sg : ByteArray
  tp : ByteArray
  fi : ByteArray
  mi : ByteArray
  ve : ByteArray
  bo : ByteArray
  px : ByteArray
  nm : ByteArray
def styC (y : Sty) : Array Value := #[.int .i64 0, .string y.sg, .string y.tp, .string y.fi, .string y.mi, .string y.ve, .string y.bo, .string ⟨#[10]⟩, .string y.px, .string y.nm]
end Go.Proofs.Ytphnnbbgcnilgaa.LstE

namespace Go.Proofs.Ytphnnbbgcnilgaa.LstI
open Go.RowKit Go.Proofs.YtphnnbbgcnilgaaW.PrintWords Go.Proofs.Ytphnnbbgcnilgaa.Common Go.Proofs.Ytphnnbbgcnilgaa.LstT Go.Proofs.Ytphnnbbgcnilgaa.LstA Go.Proofs.Ytphnnbbgcnilgaa.LstB Go.Proofs.Ytphnnbbgcnilgaa.LstC Go.Proofs.Ytphnnbbgcnilgaa.LstE
set_option linter.unusedVariables false
set_option linter.unusedSimpArgs false
set_option maxRecDepth 1000000

def dflt : Sty := ⟨⟨#[42]⟩, ⟨#[42]⟩, ⟨#[42]⟩, ⟨#[42]⟩, ⟨#[32, 32]⟩, ⟨#[42]⟩, ⟨#[]⟩, ⟨#[83, 116, 121, 108, 101, 68, 101, 102, 97, 117, 108, 116]⟩⟩
theorem default_c (W : World) : Calls Try.prog 70 #[] W fun e w' => e = .returned (.agg (styC dflt)) ∧ Below W.heap.size W w' := by
  go_enter Try.func70, Try.ntmps70
  go_wp2
  refine bodyPost_ret (results_single (r := .cell 0 106) (v := .agg (styC dflt)) rfl (.cell W.heap.size 106 (styC dflt) (0, 0) _ rfl (heap_alloc_new W _) Try.underlying106 rfl (by kernel_rfl) .nil)) rfl ⟨rfl, below_alloc (Below.refl _ _) _⟩
/-- the writer in block q, with a style in block qs -/
structure RS (B : Nat) (w0 : World) (q qs : Nat) (gs : List Nat) (its : List (Nat × ByteArray)) (lev : Nat) (y : Sty) (vs cl : ByteArray) (ap : Nat) (v : Value) (w : World) : Prop where
  hq : w.heap[q]? = some (.cells #[.int .i64 (ap : Int), .string vs, .string cl, v, .int .i64 (lev : Int), .pointer (some ⟨qs, 0, none⟩)] 79 (0, 0))
  hs : w.heap[qs]? = some (.cells (styC y) 106 (0, 0))
  row : Kd.R PK 88 w B (fun _ => True) v gs
  el : ∀ (i g : Nat) (it : Nat × ByteArray), gs[i]? = some g → its[i]? = some it → w.heap[g]? = some (.cells #[.int .i64 (it.1 : Int), .string it.2] 101 (0, 0)) ∧ B ≤ g
  len : gs.length = its.length
  bel : Below B w0 w
  bq : B ≤ q
theorem RS.below {B : Nat} {w0 : World} {q qs : Nat} {gs : List Nat} {its : List (Nat × ByteArray)} {lev : Nat} {y : Sty} {vs cl : ByteArray} {ap : Nat} {v : Value} {w w' : World} (h : RS B w0 q qs gs its lev y vs cl ap v w) (hB : B ≤ w.heap.size) (hb : Below w.heap.size w w') : RS B w0 q qs gs its lev y vs cl ap v w' :=
  ⟨(hb.block _ (Array.getElem?_eq_some_iff.1 h.hq).1).trans h.hq, (hb.block _ (Array.getElem?_eq_some_iff.1 h.hs).1).trans h.hs, Kd.R_below h.row hb, fun i g it h1 h2 => ⟨(hb.block _ (Array.getElem?_eq_some_iff.1 (h.el i g it h1 h2).1).1).trans (h.el i g it h1 h2).1, (h.el i g it h1 h2).2⟩, h.len, h.bel.trans (hb.mono hB), h.bq⟩
/-- one of the writer's own cells is written -/
theorem RS.put {B : Nat} {w0 : World} {q qs : Nat} {gs : List Nat} {its : List (Nat × ByteArray)} {lev : Nat} {y : Sty} {vs cl vs1 cl1 : ByteArray} {ap ap1 : Nat} {v : Value} {w : World} (h : RS B w0 q qs gs its lev y vs cl ap v w) (j : Nat) (u : Value)
    (hu : (#[.int .i64 (ap : Int), .string vs, .string cl, v, .int .i64 (lev : Int), .pointer (some ⟨qs, 0, none⟩)] : Array Value).setIfInBounds j u = #[.int .i64 (ap1 : Int), .string vs1, .string cl1, v, .int .i64 (lev : Int), .pointer (some ⟨qs, 0, none⟩)]) : RS B w0 q qs gs its lev y vs1 cl1 ap1 v (w.setCell ⟨q, j, none⟩ u) := by
  refine ⟨(set_cells w q j _ _ _ h.hq).trans (by rw [hu]), (setCell_block w _ u qs (typed_ne h.hs h.hq (by decide))).trans h.hs, Kd.R_set h.row h.hq pk_ne j _, fun i k it h3 h4 => ?_, h.len, h.bel.setCell h.bq _, h.bq⟩
  have hk := h.el i k it h3 h4
  exact ⟨(setCell_block w _ _ k (typed_ne hk.1 h.hq (by decide))).trans hk.1, hk.2⟩
/-- the writer in block q with a class set (LS is the one without) -/
structure LC (B : Nat) (w0 : World) (q : Nat) (gs : List Nat) (its : List (Nat × ByteArray)) (lev : Nat) (cl : ByteArray) (v : Value) (w : World) : Prop where
  hq : w.heap[q]? = some (.cells #[.int .i64 0, .string ⟨#[]⟩, .string cl, v, .int .i64 (lev : Int), .pointer none] 79 (0, 0))
  row : Kd.R PK 88 w B (fun _ => True) v gs
  el : ∀ (i g : Nat) (it : Nat × ByteArray), gs[i]? = some g → its[i]? = some it → w.heap[g]? = some (.cells #[.int .i64 (it.1 : Int), .string it.2] 101 (0, 0)) ∧ B ≤ g
  len : gs.length = its.length
  bel : Below B w0 w
  bq : B ≤ q
theorem LC.below {B : Nat} {w0 : World} {q : Nat} {gs : List Nat} {its : List (Nat × ByteArray)} {lev : Nat} {cl : ByteArray} {v : Value} {w w' : World} (h : LC B w0 q gs its lev cl v w) (hB : B ≤ w.heap.size) (hb : Below w.heap.size w w') : LC B w0 q gs its lev cl v w' :=
  ⟨(hb.block _ (Array.getElem?_eq_some_iff.1 h.hq).1).trans h.hq, Kd.R_below h.row hb, fun i g it h1 h2 => ⟨(hb.block _ (Array.getElem?_eq_some_iff.1 (h.el i g it h1 h2).1).1).trans (h.el i g it h1 h2).1, (h.el i g it h1 h2).2⟩, h.len, h.bel.trans (hb.mono hB), h.bq⟩
theorem LC.cells {B : Nat} {w0 : World} {q : Nat} {gs : List Nat} {its : List (Nat × ByteArray)} {lev : Nat} {cl : ByteArray} {v : Value} {w : World} (h : LC B w0 q gs its lev cl v w) : w.cell? ⟨q, 5, none⟩ = some (.pointer none) ∧ ∀ i, w.frozen? ⟨q, i, none⟩ = false :=
  ⟨(cell_of_row _ _ _ _ _ _ h.hq).trans rfl, fun i => by simp [World.frozen?, h.hq]⟩
theorem style_c {B : Nat} {w0 : World} {q : Nat} {gs : List Nat} {its : List (Nat × ByteArray)} {lev : Nat} {cl : ByteArray} {v : Value} {w : World} (h : LC B w0 q gs its lev cl v w) (hB : B ≤ w.heap.size) :
    Calls Try.prog 57 #[.pointer (some ⟨q, 0, none⟩)] w fun e w' => ∃ qs, e = .returned (.pointer (some ⟨qs, 0, none⟩)) ∧ RS B w0 q qs gs its lev dflt ⟨#[]⟩ cl 0 v w' := by
  have H : ∀ W, Aside0 (Calls Try.prog 70 #[] W fun e w' => e = .returned (.agg #[.int .i64 0, .string ⟨#[42]⟩, .string ⟨#[42]⟩, .string ⟨#[42]⟩, .string ⟨#[42]⟩, .string ⟨#[32, 32]⟩, .string ⟨#[42]⟩, .string ⟨#[10]⟩, .string ⟨#[]⟩, .string ⟨#[83, 116, 121, 108, 101, 68, 101, 102, 97, 117, 108, 116]⟩]) ∧ Below W.heap.size W w') := fun W => Aside0.mk (default_c W)
  have HL := Aside0.mk h
  have HB := Aside0.mk hB
  obtain ⟨h5, hf⟩ := h.cells
  clear h hB hf
  go_enter Try.func57, Try.ntmps57
  go_wp2_with (go_at_call 70; refine (H _).out.mono ?_; rintro e w1 ⟨rfl, hb⟩; have HL1 := Aside0.mk (HL.out.below HB.out hb); have HZ1 := Aside0.mk (Nat.le_trans HB.out hb.size); have hA5 := fun o => pw_cell_below (below_alloc (Below.refl w1.heap.size w1) o) HL1.out.cells.1; have hF5 : ∀ o, (w1.alloc o).frozen? ⟨q, 5, none⟩ = false := (fun o => (HL1.out.below HZ1.out (below_alloc (Below.refl _ _) o)).cells.2 5); clear hb)
  go_ret
  have hl := HL1.out.below HZ1.out (below_alloc (Below.refl _ _) (.cells (styC dflt) 106))
  have hnew := heap_alloc_new w1 (.cells (styC dflt) 106)
  refine ⟨w1.heap.size, rfl, set_cells _ q 5 _ _ _ hl.hq, (setCell_block _ _ _ w1.heap.size (typed_ne hnew hl.hq (by decide))).trans hnew, Kd.R_set hl.row hl.hq pk_ne 5 _, fun i k it h3 h4 => ?_, hl.len, hl.bel.setCell hl.bq _, hl.bq⟩
  have hk := hl.el i k it h3 h4
  exact ⟨(setCell_block _ _ _ k (typed_ne hk.1 hl.hq (by decide))).trans hk.1, hk.2⟩
end Go.Proofs.Ytphnnbbgcnilgaa.LstI
