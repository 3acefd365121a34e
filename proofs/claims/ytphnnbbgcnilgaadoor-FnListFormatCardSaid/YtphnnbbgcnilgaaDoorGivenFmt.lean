/-
  Proved: contracts of impl.ListRender, impl.TextFormat, spec.TxSimple and spec.LsStyled in the print's form. Conditions: as the functions say.
-/
import Derived.Test.YtphnnbbgcnilgaaDoorLstJ
import Derived.Test.YtphnnbbgcnilgaaDoorLstK
import Derived.Test.YtphnnbbgcnilgaaDoorFmD
import Derived.Test.YtphnnbbgcnilgaaDoorBkY
namespace Go.Proofs.YtphnnbbgcnilgaaDoor.BkS
open Go.RowKit Go.Proofs.YtphnnbbgcnilgaaDoorW.PrintWords Go.Proofs.YtphnnbbgcnilgaaDoor.Common Go.Proofs.YtphnnbbgcnilgaaDoor.LstT Go.Proofs.YtphnnbbgcnilgaaDoor.LstA Go.Proofs.YtphnnbbgcnilgaaDoor.LstB Go.Proofs.YtphnnbbgcnilgaaDoor.LstC Go.Proofs.YtphnnbbgcnilgaaDoor.LstD Go.Proofs.YtphnnbbgcnilgaaDoor.LstE Go.Proofs.YtphnnbbgcnilgaaDoor.FmA Go.Proofs.YtphnnbbgcnilgaaDoor.FmC Go.Proofs.YtphnnbbgcnilgaaDoor.LstF Go.Proofs.YtphnnbbgcnilgaaDoor.LstI Go.Proofs.YtphnnbbgcnilgaaDoor.LstJ Go.Proofs.YtphnnbbgcnilgaaDoor.LstK Go.Proofs.YtphnnbbgcnilgaaDoor.GFnListFormat
set_option linter.unusedVariables false
set_option linter.unusedSimpArgs false
set_option maxRecDepth 1000000

def argC (fm : Int) (sg tp fi mi ve bo px : ByteArray) : Array Value := #[.int .i64 fm, .string sg, .string tp, .string fi, .string mi, .string ve, .string bo, .string ⟨#[10]⟩, .string px]
theorem style_of (fm : Int) (sg tp fi mi ve bo px : ByteArray) (W : World) : Calls Tryd.prog 25 #[.agg (argC fm sg tp fi mi ve bo px)] W fun e w' => e = .returned (.agg (styC ⟨sg, tp, fi, mi, ve, bo, px, ⟨#[]⟩, fm⟩)) ∧ Below W.heap.size W w' := by
  unfold argC
  go_enter Tryd.func25, Tryd.ntmps25
  go_wp2_with ((with_reducible refine gate_dst (N := 1) rfl ?_); (try (refine gate_guard (by rfl) ?_; dsimp only)); refine box_event ?hg (N := 1) ?hd (cs := #[.int .i64 fm, .string sg, .string tp, .string fi, .string mi, .string ve, .string bo, .string ⟨#[10]⟩, .string px]) (t := 24) ?hr ?_; (case hd => rfl); (case hg => rfl); (case hr => first | (go_simp; done) | (go_simp; rfl)); intro gb hgb w10 hbox hb; have HGB := Aside0.mk hgb; have HBX := Aside0.mk hbox; have HBB := Aside0.mk hb; clear hgb hbox hb; have c0 : ∀ o, (w10.alloc o).cell? ⟨gb, 0, none⟩ = some (.int .i64 fm) := fun o => (blk_cell (blk_alloc HBX.out o) 0).trans rfl; have c1 : ∀ o, (w10.alloc o).cell? ⟨gb, 1, none⟩ = some (.string sg) := fun o => (blk_cell (blk_alloc HBX.out o) 1).trans rfl; have c2 : ∀ o, (w10.alloc o).cell? ⟨gb, 2, none⟩ = some (.string tp) := fun o => (blk_cell (blk_alloc HBX.out o) 2).trans rfl; have c3 : ∀ o, (w10.alloc o).cell? ⟨gb, 3, none⟩ = some (.string fi) := fun o => (blk_cell (blk_alloc HBX.out o) 3).trans rfl; have c4 : ∀ o, (w10.alloc o).cell? ⟨gb, 4, none⟩ = some (.string mi) := fun o => (blk_cell (blk_alloc HBX.out o) 4).trans rfl; have c5 : ∀ o, (w10.alloc o).cell? ⟨gb, 5, none⟩ = some (.string ve) := fun o => (blk_cell (blk_alloc HBX.out o) 5).trans rfl; have c6 : ∀ o, (w10.alloc o).cell? ⟨gb, 6, none⟩ = some (.string bo) := fun o => (blk_cell (blk_alloc HBX.out o) 6).trans rfl; have c7 : ∀ o, (w10.alloc o).cell? ⟨gb, 7, none⟩ = some (.string ⟨#[10]⟩) := fun o => (blk_cell (blk_alloc HBX.out o) 7).trans rfl; have c8 : ∀ o, (w10.alloc o).cell? ⟨gb, 8, none⟩ = some (.string px) := fun o => (blk_cell (blk_alloc HBX.out o) 8).trans rfl)
  refine bodyPost_ret (results_single (r := .cell 2 53) (v := .agg (styC ⟨sg, tp, fi, mi, ve, bo, px, ⟨#[]⟩, fm⟩)) rfl (.cell w10.heap.size 53 (styC ⟨sg, tp, fi, mi, ve, bo, px, ⟨#[]⟩, fm⟩) (0, 0) _ rfl (heap_alloc_new w10 _) Tryd.underlying53 rfl (by kernel_rfl) .nil)) rfl ⟨rfl, below_alloc HBB.out _⟩
theorem set_c {B : Nat} {w0 : World} {q : Nat} {gs : List Nat} {its : List (Nat × ByteArray)} {lev : Nat} {v : Value} {w : World} (h : LS B w0 q gs its lev v w) (hB : B ≤ w.heap.size) (y : Sty) :
    Calls Tryd.prog 24 #[.pointer (some ⟨q, 0, none⟩), .agg (styC y)] w fun e w' => ∃ u, e = .returned u ∧ ∃ qs, RS B w0 q qs gs its lev y ⟨#[]⟩ ⟨#[]⟩ 0 v w' := by
  have HL := Aside0.mk h
  have HB := Aside0.mk hB
  clear h hB
  unfold styC
  go_enter Tryd.func24, Tryd.ntmps24
  go_wp2_with ((with_reducible refine gate_dst (N := 3) rfl ?_); (try (refine gate_guard (by rfl) ?_; dsimp only)); refine box_event ?hg (N := 3) ?hd (cs := styC y) (t := 53) ?hr ?_; (case hd => rfl); (case hg => rfl); (case hr => unfold styC; first | (go_simp; done) | (go_simp; rfl)); intro gb hgb w10 hbox hb; have HL1 := Aside0.mk (HL.out.below HB.out hb); have HBX := Aside0.mk hbox; have HGB := Aside0.mk hgb; have hA5 := HL1.out.cells.2.2.1; have hF5 := HL1.out.cells.2.2.2.2 5; clear hgb hbox hb)
  go_end0
  have hl := HL1.out
  have hnew := HBX.out
  refine ⟨_, rfl, gb, set_cells _ q 5 _ _ _ hl.hq, (setCell_block _ _ _ gb (typed_ne hnew hl.hq (by decide))).trans hnew, Kd.R_set hl.row hl.hq pk_ne 5 _, fun i k it h3 h4 => ?_, hl.len, hl.bel.setCell hl.bq _, hl.bq⟩
  have hk := hl.el i k it h3 h4
  exact ⟨(setCell_block _ _ _ k (typed_ne hk.1 hl.hq (by decide))).trans hk.1, hk.2⟩
theorem style_set {B : Nat} {w0 : World} {q qs : Nat} {gs : List Nat} {its : List (Nat × ByteArray)} {lev : Nat} {y : Sty} {vs cl : ByteArray} {ap : Nat} {v : Value} {w : World} (h : RS B w0 q qs gs its lev y vs cl ap v w) :
    Calls Tryd.prog 46 #[.pointer (some ⟨q, 0, none⟩)] w fun e w' => ∃ qs, e = .returned (.pointer (some ⟨qs, 0, none⟩)) ∧ RS B w0 q qs gs its lev y vs cl ap v w' := by
  have HL := Aside0.mk h
  have h5 : w.cell? ⟨q, 5, none⟩ = some (.pointer (some ⟨qs, 0, none⟩)) := (cell_of_row _ _ _ _ _ _ h.hq).trans rfl
  clear h
  go_enter Tryd.func46, Tryd.ntmps46
  go_wp2
  go_ret
  exact ⟨qs, rfl, HL.out⟩
instance (s : ByteArray) : Decidable (good s) := by unfold good; infer_instance
instance (f : Int) (s : ByteArray) : Decidable (okT f s) := by unfold okT; infer_instance
def okSt (f : Int) (st : St) : Prop := st.1.length ≤ 1000 ∧ ∀ x ∈ st.1, x.1 ≤ 1000 ∧ okT f x.2
instance (f : Int) (st : St) : Decidable (okSt f st) := by unfold okSt; infer_instance
def vsOf (ve : ByteArray) : ByteArray := ofL (Lib.repeatL [32] (Lib.runeCount ve))
theorem render_set {B : Nat} {w0 : World} {q qs : Nat} {gs : List Nat} {its : List (Nat × ByteArray)} {lev : Nat} {y : Sty} {v : Value} {w : World} (h : RS B w0 q qs gs its lev y ⟨#[]⟩ ⟨#[]⟩ 0 v w) (hw0 : B ≤ w0.heap.size) (hy : shortY y (vsOf y.ve)) (hok : okSt y.fm (its, lev)) (hF : ∀ W', Below B w0 W' → FmtC y.fm W') :
    Calls Tryd.prog 26 #[.pointer (some ⟨q, 0, none⟩)] w fun e w' => e = .returned (.string (ofL (outL its y (vsOf y.ve) its.length))) ∧ Below B w0 w' := by
  obtain ⟨hn, hits⟩ := hok
  obtain ⟨A, c, rfl, _⟩ := Kd.R_reads h.row
  refine render_c (q := q) (y := y) (vs := vsOf y.ve) ?_ hy hn hits
  refine (init_c (style_set h) hw0 hy.2.2.2.2.1 hy.2.2.2.2.2.2.1 (by simp at hn; omega) (fun x hx => ⟨(hits x hx).1, (hits x hx).2.1.1⟩)).mono ?_
  rintro e w' ⟨u, rfl, qs, ap, hap, hr⟩
  exact ⟨u, rfl, Nat.le_trans hw0 hr.bel.size, hr.bel, qs, ap, hap, RS.rd hr (hF _ hr.bel), hr.cells.1⟩
def yOf (f0 : Int) (f1 f2 f3 f4 f5 f6 f8 : ByteArray) : Sty := ⟨f1, f2, f3, f4, f5, f6, f8, ⟨#[]⟩, f0⟩
instance (y : Sty) (vs : ByteArray) : Decidable (shortY y vs) := by unfold shortY; infer_instance
def okStyle (f0 : Int) (f1 f2 f3 f4 f5 f6 f7 f8 : ByteArray) : Prop := (f0 = 0 ∨ f0 = 1 ∨ f0 = 2 ∨ f0 = 3) ∧ f7 = ⟨#[10]⟩ ∧ shortY (yOf f0 f1 f2 f3 f4 f5 f6 f8) (vsOf f5)
instance (f0 : Int) (f1 f2 f3 f4 f5 f6 f7 f8 : ByteArray) : Decidable (okStyle f0 f1 f2 f3 f4 f5 f6 f7 f8) := by unfold okStyle; infer_instance
def renderF (l : List S57) (f0 : Int) (f1 f2 f3 f4 f5 f6 f7 f8 : ByteArray) : Option ByteArray :=
  if l.length ≤ 20000 ∧ okStyle f0 f1 f2 f3 f4 f5 f6 f7 f8 then (run l ([], 0)).bind fun st => if okSt f0 st then some (ofL (outL st.1 (yOf f0 f1 f2 f3 f4 f5 f6 f8) (vsOf f5) st.1.length)) else none else none
theorem listRender_c (A : Option Addr) (c : Nat) (l : List S57) (f0 : Int) (f1 f2 f3 f4 f5 f6 f7 f8 r : ByteArray) (w : World) (hT : Tb w) (hr : Kd.C k57 w A l.length l) (h : renderF l f0 f1 f2 f3 f4 f5 f6 f7 f8 = some r) :
    Calls Tryd.prog 11 #[.slice A l.length c, .agg #[.int .i64 f0, .string f1, .string f2, .string f3, .string f4, .string f5, .string f6, .string f7, .string f8]] w fun e w' => e = .returned (.string r) ∧ Below w.heap.size w w' := by
  unfold renderF at h
  by_cases hc : l.length ≤ 20000 ∧ okStyle f0 f1 f2 f3 f4 f5 f6 f7 f8
  · rw [if_pos hc] at h
    obtain ⟨hl, hf0, rfl, hy⟩ := hc
    obtain ⟨st, hs, h⟩ := Option.bind_eq_some_iff.1 h
    by_cases hok : okSt f0 st
    · rw [if_pos hok] at h
      injection h with h
      have H := fun (W : World) (hb : Below w.heap.size w W) => Aside0.mk (listOf_c l st hs hl A c W (Kd.C_below hr hb))
      have HO := Aside0.mk hok
      have HR := Aside0.mk h
      have HY := Aside0.mk hy
      have HSO := fun W => Aside0.mk (style_of f0 f1 f2 f3 f4 f5 f6 f8 W)
      have HFM : Aside0 (∀ W0, Below w.heap.size w W0 → ∀ W', Below W0.heap.size W0 W' → FmtC f0 W') := ⟨fun W0 h0 W' h W'' h2 s hs => FmD.apply_c f0 hf0 s hs W'' (fun _ => (hT.below h0).below (h.trans (h2.mono h.size)))⟩
      clear hr h hs hok hy hT hf0
      go_enter Tryd.func11, Tryd.ntmps11
      go_wp2_with (first
        | ((with_reducible refine gate_dst (N := 3) rfl ?_); (try (refine gate_guard (by rfl) ?_; dsimp only)); refine box_event ?hg (N := 3) ?hd (cs := argC f0 f1 f2 f3 f4 f5 f6 f8) (t := 24) ?hr ?_; (case hd => rfl); (case hg => rfl); (case hr => unfold argC; first | (go_simp; done) | (go_simp; rfl)); intro gb hgb w10 hbox hb; have HBX := Aside0.mk hbox; have HBB := Aside0.mk hb; clear hgb hbox hb)
        | (go_at_call 23; refine (H _ HBB.out).out.mono ?_; rintro e w1 ⟨q, gs, v, rfl, hz, hls⟩; have HLS := Aside0.mk hls; have HZ := Aside0.mk hz; have hbx := (hls.bel.block _ (Array.getElem?_eq_some_iff.1 HBX.out).1).trans HBX.out; have c0 : w1.cell? ⟨gb, 0, none⟩ = some (.int .i64 f0) := (blk_cell hbx 0).trans rfl; have c1 : w1.cell? ⟨gb, 1, none⟩ = some (.string f1) := (blk_cell hbx 1).trans rfl; have c2 : w1.cell? ⟨gb, 2, none⟩ = some (.string f2) := (blk_cell hbx 2).trans rfl; have c3 : w1.cell? ⟨gb, 3, none⟩ = some (.string f3) := (blk_cell hbx 3).trans rfl; have c4 : w1.cell? ⟨gb, 4, none⟩ = some (.string f4) := (blk_cell hbx 4).trans rfl; have c5 : w1.cell? ⟨gb, 5, none⟩ = some (.string f5) := (blk_cell hbx 5).trans rfl; have c6 : w1.cell? ⟨gb, 6, none⟩ = some (.string f6) := (blk_cell hbx 6).trans rfl; have c7 : w1.cell? ⟨gb, 7, none⟩ = some (.string ⟨#[10]⟩) := (blk_cell hbx 7).trans rfl; have c8 : w1.cell? ⟨gb, 8, none⟩ = some (.string f8) := (blk_cell hbx 8).trans rfl; clear hls hz hbx)
        | (go_at_call 25; refine (HSO _).out.mono ?_; rintro e w2 ⟨rfl, hb⟩; have HB2 := Aside0.mk hb; clear hb)
        | (go_at_call 24; refine (set_c (HLS.out.below HZ.out HB2.out) (Nat.le_trans HZ.out HB2.out.size) _).mono ?_; rintro e w3 ⟨u, rfl, qs, hrs⟩; have HRS := Aside0.mk hrs; clear hrs)
        | (go_at_call 26; refine (render_set HRS.out (Nat.le_refl _) HY.out HO.out (HFM.out _ HBB.out)).mono ?_; rintro e w4 ⟨rfl, hb⟩; have HB4 := Aside0.mk hb; clear hb))
      go_ret
      exact ⟨by rw [← HR.out]; rfl, HBB.out.trans (HB4.out.mono HBB.out.size)⟩
    · rw [if_neg hok] at h
      cases h
  · rw [if_neg hc] at h
    cases h
end Go.Proofs.YtphnnbbgcnilgaaDoor.BkS

namespace Go.Proofs.YtphnnbbgcnilgaaDoor.GivenFmt
open Go.RowKit Go.Proofs.YtphnnbbgcnilgaaDoorW.PrintWords Go.Proofs.YtphnnbbgcnilgaaDoor.Common Go.Proofs.YtphnnbbgcnilgaaDoor.GFnListFormat
set_option linter.unusedVariables false

def impl_ListRender.f (l : List S57) (f0 : Int) (f1 f2 f3 f4 f5 f6 f7 f8 : ByteArray) : Option ByteArray := BkS.renderF l f0 f1 f2 f3 f4 f5 f6 f7 f8
theorem impl_ListRender.calls (A : Option Addr) (c : Nat) (l : List S57) (f0 : Int) (f1 f2 f3 f4 f5 f6 f7 f8 : ByteArray) (r : ByteArray) (w : World) (hT : FmC.Tb w) (hr : Kd.C k57 w A l.length l) (hc : l.length ≤ c) (h : impl_ListRender.f l f0 f1 f2 f3 f4 f5 f6 f7 f8 = some r) :
    Calls Tryd.prog 11 #[.slice A l.length c, .agg #[.int .i64 f0, .string f1, .string f2, .string f3, .string f4, .string f5, .string f6, .string f7, .string f8]] w fun e w' => e = .returned (.string r) ∧ Below w.heap.size w w' := BkS.listRender_c A c l f0 f1 f2 f3 f4 f5 f6 f7 f8 r w hT hr h
theorem tab_step {w w1 : World} (h : FmC.Tb w) (hb : Below w.heap.size w w1) : FmC.Tb w1 := h.below hb
def impl_TextFormat.f (f : Int) (s : ByteArray) : Option ByteArray := if (f = 0 ∨ f = 1 ∨ f = 2 ∨ f = 3) ∧ FmA.okT f s then some (FmA.FF f s) else none
theorem impl_TextFormat.calls (f : Int) (s : ByteArray) (r : ByteArray) (w : World) (hT : FmC.Tb w) (h : impl_TextFormat.f f s = some r) :
    Calls Tryd.prog 14 #[.int .i64 f, .string s] w fun e w' => e = .returned (.string r) ∧ Below w.heap.size w w' := by
  unfold impl_TextFormat.f at h
  split at h
  · rename_i hs
    injection h with h
    rw [← h]
    exact FmD.format_c f hs.1 s hs.2 w (fun _ => hT)
  · cases h
def spec_TxSimple.f (s : ByteArray) (b : Bool) : Option Bool := some (LstN.simple s b)
theorem spec_TxSimple.calls (s : ByteArray) (b : Bool) (r : Bool) (w : World) (h : spec_TxSimple.f s b = some r) :
    Calls Tryd.prog 17 #[.string s, .bool b] w fun e w' => e = .returned (.bool r) ∧ Below w.heap.size w w' := by
  injection h with h
  rw [← h]
  exact LstN.simple_walk s b w
def spec_LsStyled.f (f0 : Int) (f1 f2 f3 f4 f5 f6 f7 f8 : ByteArray) : Option Bool := some (BkY.styledF f0 f1 f2 f3 f4 f5 f6 f7 f8)
theorem spec_LsStyled.calls (f0 : Int) (f1 f2 f3 f4 f5 f6 f7 f8 : ByteArray) (r : Bool) (w : World) (h : spec_LsStyled.f f0 f1 f2 f3 f4 f5 f6 f7 f8 = some r) :
    Calls Tryd.prog 8 #[.agg #[.int .i64 f0, .string f1, .string f2, .string f3, .string f4, .string f5, .string f6, .string f7, .string f8]] w fun e w' => e = .returned (.bool r) ∧ Below w.heap.size w w' := by
  injection h with h
  rw [← h]
  exact BkY.styled_walk f0 f1 f2 f3 f4 f5 f6 f7 f8 w
end Go.Proofs.YtphnnbbgcnilgaaDoor.GivenFmt
