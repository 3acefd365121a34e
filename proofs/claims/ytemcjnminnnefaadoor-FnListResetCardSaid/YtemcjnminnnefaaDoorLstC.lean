/-
  Proved: what Indent, UnIndent and Reset of a list writer do. Conditions: at most 100000 items.
-/
import Derived.Test.YtemcjnminnnefaaDoorLstB
import Derived.BigQuiet
namespace Go.Proofs.YtemcjnminnnefaaDoor.LstC
open Go.RowKit Go.Proofs.YtemcjnminnnefaaDoorW.PrintWords Go.Proofs.YtemcjnminnnefaaDoor.Common Go.Proofs.YtemcjnminnnefaaDoor.GEL Go.Proofs.YtemcjnminnnefaaDoor.LstT Go.Proofs.YtemcjnminnnefaaDoor.LstA Go.Proofs.YtemcjnminnnefaaDoor.LstB
set_option linter.unusedVariables false
set_option linter.unusedSimpArgs false
set_option maxRecDepth 1000000

theorem _root_.Go.Proofs.YtemcjnminnnefaaDoor.LstA.LS.setLev {B : Nat} {w0 : World} {q : Nat} {gs : List Nat} {its : List (Nat × ByteArray)} {lev lev1 : Nat} {v : Value} {w : World} (h : LS B w0 q gs its lev v w) (u : Value) (hu : u = .int .i64 (lev1 : Int)) : LS B w0 q gs its lev1 v (w.setCell ⟨q, 4, none⟩ u) := by
  subst hu
  refine ⟨set_cells w q 4 _ _ _ h.hq, Kd.R_set h.row h.hq pk_ne 4 _, fun i k it h3 h4 => ?_, h.len, h.bel.setCell h.bq _, h.bq⟩
  have hk := h.el i k it h3 h4
  exact ⟨(setCell_block w _ _ k (typed_ne hk.1 h.hq (by decide))).trans hk.1, hk.2⟩
theorem _root_.Go.Proofs.YtemcjnminnnefaaDoor.LstA.LS.cells {B : Nat} {w0 : World} {q : Nat} {gs : List Nat} {its : List (Nat × ByteArray)} {lev : Nat} {v : Value} {w : World} (h : LS B w0 q gs its lev v w) :
    w.cell? ⟨q, 3, none⟩ = some v ∧ w.cell? ⟨q, 4, none⟩ = some (.int .i64 (lev : Int)) ∧ w.cell? ⟨q, 5, none⟩ = some (.pointer none) ∧ w.cell? ⟨q, 0, none⟩ = some (.int .i64 0) ∧ ∀ i, w.frozen? ⟨q, i, none⟩ = false :=
  ⟨(cell_of_row _ _ _ _ _ _ h.hq).trans rfl, (cell_of_row _ _ _ _ _ _ h.hq).trans rfl, (cell_of_row _ _ _ _ _ _ h.hq).trans rfl, (cell_of_row _ _ _ _ _ _ h.hq).trans rfl, fun i => by simp [World.frozen?, h.hq]⟩
/-- item i, as the writer's row leads to it -/
theorem _root_.Go.Proofs.YtemcjnminnnefaaDoor.LstA.LS.item {B : Nat} {w0 : World} {q : Nat} {gs : List Nat} {its : List (Nat × ByteArray)} {lev : Nat} {v : Value} {w : World} (h : LS B w0 q gs its lev v w) (i : Nat) (hi : i < its.length) :
    ∃ ad g c, v = .slice (some ad) gs.length c ∧ gs[i]? = some g ∧ w.cell? (ad.add i) = some (.pointer (some ⟨g, 0, none⟩)) ∧ w.cell? ⟨g, 0, none⟩ = some (.int .i64 ((its[i]).1 : Int)) ∧ w.cell? ⟨g, 1, none⟩ = some (.string (its[i]).2) ∧ B ≤ g := by
  obtain ⟨A, c, rfl, _, hC⟩ := Kd.R_reads h.row
  have hg : i < gs.length := by rw [h.len]; exact hi
  obtain ⟨ad, c1, rfl, _, hK, hc⟩ := Kd.C_get hC (0 : Nat) (i : Int) (by omega) (by omega)
  have hK2 : c1 = [.pointer (some ⟨gs.getD (i : Int).toNat 0, 0, none⟩)] := hK
  subst hK2
  have h1 := hc 0 _ rfl
  rw [Int.toNat_natCast, show PK.sz = 1 from rfl, Nat.mul_one, Nat.add_zero] at h1
  have e : gs.getD i 0 = gs[i] := by simp [List.getD_eq_getElem?_getD, List.getElem?_eq_getElem hg]
  rw [e] at h1
  have hk := h.el i gs[i] its[i] (List.getElem?_eq_getElem hg) (List.getElem?_eq_getElem hi)
  exact ⟨ad, gs[i], c, rfl, List.getElem?_eq_getElem hg, h1, (cell_of_row _ _ _ _ _ _ hk.1).trans rfl, (cell_of_row _ _ _ _ _ _ hk.1).trans rfl, hk.2⟩
def indentF (its : List (Nat × ByteArray)) (lev : Nat) : Nat := match its.getLast? with
  | none => lev
  | some x => if lev > x.1 then lev else lev + 1
theorem unindent_c {B : Nat} {w0 : World} {q : Nat} {gs : List Nat} {its : List (Nat × ByteArray)} {lev : Nat} {v : Value} {w : World} (h : LS B w0 q gs its lev v w) (hl : lev ≤ 100000) :
    Calls Tryd.prog 18 #[.pointer (some ⟨q, 0, none⟩)] w fun e w' => ∃ u, e = .returned u ∧ LS B w0 q gs its (lev - 1) v w' := by
  obtain ⟨h3, h4, h5, h0, hf⟩ := h.cells
  have hf4 := hf 4
  have HL := Aside0.mk h
  clear h
  by_cases hz : 0 < lev
  · have hd : decide ((lev : Int) > 0) = true := decide_eq_true (by omega)
    have hw : wrap64 ((lev : Int) - 1) = (((lev - 1 : Nat)) : Int) := by rw [w64 _ (by omega) (by omega)]; omega
    go_enter Tryd.func18, Tryd.ntmps18
    go_wp2
    go_end0
    exact ⟨_, rfl, HL.out.setLev _ (congrArg (Value.int .i64) (show (lev : Int) - 1 = ((lev - 1 : Nat) : Int) by omega))⟩
  · obtain rfl : lev = 0 := by omega
    go_enter Tryd.func18, Tryd.ntmps18
    go_wp2
    go_end0
    exact ⟨_, rfl, HL.out⟩
theorem reset_c {B : Nat} {w0 : World} {q : Nat} {gs : List Nat} {its : List (Nat × ByteArray)} {lev : Nat} {v : Value} {w : World} (h : LS B w0 q gs its lev v w) (hB : B ≤ w.heap.size) :
    Calls Tryd.prog 20 #[.pointer (some ⟨q, 0, none⟩)] w fun e w' => ∃ u, e = .returned u ∧ ∃ v1, LS B w0 q [] [] 0 v1 w' := by
  obtain ⟨h3, h4, h5, h0, hf⟩ := h.cells
  have hf0 := hf 0
  obtain ⟨V, hV⟩ : ∃ V, V = (w.setCell ⟨q, 0, none⟩ (.int .i64 0)).alloc (.cells #[] 53) := ⟨_, rfl⟩
  have hqs := set_cells w q 0 _ _ (.int .i64 0) h.hq
  have hqV : V.heap[q]? = some (.cells #[.int .i64 0, .string ⟨#[]⟩, .string ⟨#[]⟩, v, .int .i64 (lev : Int), .pointer none] 44 (0, 0)) := by
    rw [hV]
    exact ((below_alloc (Below.refl (w.setCell ⟨q, 0, none⟩ (.int .i64 0)).heap.size _) _).block q (Array.getElem?_eq_some_iff.1 hqs).1).trans hqs
  have hnew : V.heap[w.heap.size]? = some (.cells #[] 53 (0, 0)) := by
    rw [hV]
    have := heap_alloc_new (w.setCell ⟨q, 0, none⟩ (.int .i64 0)) (.cells #[] 53)
    rwa [World.size_setCell] at this
  have v3 : V.cell? ⟨q, 3, none⟩ = some v := (cell_of_row _ _ _ _ _ _ hqV).trans rfl
  have v4 : V.cell? ⟨q, 4, none⟩ = some (.int .i64 (lev : Int)) := (cell_of_row _ _ _ _ _ _ hqV).trans rfl
  have v5 : V.cell? ⟨q, 5, none⟩ = some (.pointer none) := (cell_of_row _ _ _ _ _ _ hqV).trans rfl
  have vf : ∀ i, V.frozen? ⟨q, i, none⟩ = false := fun i => by simp [World.frozen?, hqV]
  have vf3 := vf 3
  have vf4 := vf 4
  have vf5 := vf 5
  have hbV : Below B w0 V := by
    rw [hV]
    exact (h.bel.setCell h.bq _).alloc (by rw [World.size_setCell]; exact hB) _
  have hbq := h.bq
  have HV := Aside0.mk hV
  have HR : Aside0 (Kd.R PK 53 V B (fun _ => True) (.slice (some ⟨w.heap.size, 0, none⟩) 0 0) []) := by
    refine Aside0.mk ?_
    rw [hV]
    have := Kd.R_of_own (enc := fun g : Nat => Value.pointer (some ⟨g, 0, none⟩)) (h1 := fun _ => rfl) (ok := fun _ => True) (xs := []) (World.ownsRow_lit (base := B) (e := 53) (size := 1) (w.setCell ⟨q, 0, none⟩ (.int .i64 0)) #[] 0 (by rw [World.size_setCell]; exact hB) (by unfold maxLen; omega) rfl) (fun _ _ => trivial)
    rw [World.size_setCell] at this
    exact this
  clear h hV hf h3 h4 h5
  have hmk : ∀ W : World, (Instr.makeSlice 41 (.int .i64 0) (.int .i64 0)).run Tryd.prog W = .ok (.slice (some ⟨W.heap.size, 0, none⟩) 0 0) (W.alloc (.cells #[] 53)) := fun W => by
    obtain ⟨i0, hi, hzz⟩ := Option.map_eq_some_iff.1 info53
    simp only [Prod.mk.injEq] at hzz
    have := run_make (P := Tryd.prog) W 41 53 i0 (.pointer none) Tryd.underlying41 hi hzz.1 .i64 .i64 0 0 (by omega) (by omega) (by omega) (by omega)
    have e : madeCells (Value.pointer none).cells ((0 : Int).toNat * i0.size) = #[] := Array.eq_empty_of_size_eq_zero (by rw [size_madeCells]; simp)
    rw [e] at this
    exact this
  have HMK := Aside0.mk hmk
  clear hmk
  go_enter Tryd.func20, Tryd.ntmps20
  go_wp2
  rw [HMK.out, World.size_setCell, ← HV.out]
  go_wp2
  go_end0
  have e1 := set_cells V q 3 _ _ (.slice (some ⟨w.heap.size, 0, none⟩) 0 0) hqV
  have r1 := Kd.R_set HR.out hqV pk_ne 3 (.slice (some ⟨w.heap.size, 0, none⟩) 0 0)
  have e2 := set_cells _ q 4 _ _ (.int .i64 0) e1
  have r2 := Kd.R_set r1 e1 pk_ne 4 (.int .i64 0)
  have e3 := set_cells _ q 5 _ _ (.pointer none) e2
  have r3 := Kd.R_set r2 e2 pk_ne 5 (.pointer none)
  exact ⟨_, rfl, _, e3, r3, fun i g it h1 h2 => by simp at h1, rfl, ((hbV.setCell hbq _).setCell hbq _).setCell hbq _, hbq⟩
theorem indent_c {B : Nat} {w0 : World} {q : Nat} {gs : List Nat} {its : List (Nat × ByteArray)} {lev : Nat} {v : Value} {w : World} (h : LS B w0 q gs its lev v w) (hB : B ≤ w.heap.size) (hl : lev ≤ 100000) (hn : its.length ≤ 100000) :
    Calls Tryd.prog 17 #[.pointer (some ⟨q, 0, none⟩)] w fun e w' => ∃ u, e = .returned u ∧ LS B w0 q gs its (indentF its lev) v w' := by
  obtain ⟨h3, h4, h5, h0, hf⟩ := h.cells
  have hf4 := hf 4
  by_cases hz : its = []
  · subst hz
    have hg : gs = [] := List.eq_nil_of_length_eq_zero h.len
    subst hg
    obtain ⟨A, c, rfl, _⟩ := Kd.R_reads h.row
    have HL := Aside0.mk h
    clear h
    go_enter Tryd.func17, Tryd.ntmps17
    go_wp2
    go_end0
    exact ⟨_, rfl, HL.out⟩
  · have hp := List.length_pos_iff.2 hz
    obtain ⟨ad, g, c, rfl, hgi, hc0, hc1, hc2, hgB⟩ := h.item (its.length - 1) (by omega)
    have hlen := h.len
    have HL := Aside0.mk h
    clear h
    have hlast : its.getLast? = some (its[its.length - 1]'(by omega)) := by rw [List.getLast?_eq_getElem?, List.getElem?_eq_getElem (by omega)]
    have hx : indentF its lev = if lev > (its[its.length - 1]'(by omega)).1 then lev else lev + 1 := by unfold indentF; rw [hlast]
    rw [hx]
    clear hx hlast
    generalize (its[its.length - 1]'(by omega)).1 = m at *
    have hn0 : decide ((gs.length : Int) = 0) = false := decide_eq_false (by omega)
    have hw1 : wrap64 ((gs.length : Int) - 1) = (((its.length - 1 : Nat)) : Int) := by rw [w64 _ (by omega) (by omega)]; omega
    have hw2 : wrap64 ((lev : Int) + 1) = (((lev + 1 : Nat)) : Int) := by rw [w64 _ (by omega) (by omega)]; omega
    by_cases hm : lev > m
    · have hd : decide ((lev : Int) > (m : Int)) = true := decide_eq_true (by omega)
      rw [if_pos hm]
      go_enter Tryd.func17, Tryd.ntmps17
      go_wp2
      go_quiet (fail)
      go_wp2
      go_end0
      exact ⟨_, rfl, HL.out.below hB (pw_below_drewN (Below.refl _ _) _)⟩
    · have hd : decide ((lev : Int) > (m : Int)) = false := decide_eq_false (by omega)
      rw [if_neg hm]
      go_enter Tryd.func17, Tryd.ntmps17
      go_wp2
      go_quiet (fail)
      go_wp2
      go_end0
      exact ⟨_, rfl, (HL.out.below hB (pw_below_drewN (Below.refl _ _) nq)).setLev _ (congrArg (Value.int .i64) (show (lev : Int) + 1 = ((lev + 1 : Nat) : Int) by omega))⟩
end Go.Proofs.YtemcjnminnnefaaDoor.LstC
