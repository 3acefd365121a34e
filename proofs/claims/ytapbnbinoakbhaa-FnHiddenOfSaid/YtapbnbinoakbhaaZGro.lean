/-
  Proved: what table.ZzGrown returns where no column has a most. Conditions: 1 to 40 columns, numbers up to 3000.
-/
import Derived.Test.YtapbnbinoakbhaaZPad
import Derived.Laws.Rows
namespace Go.Proofs.Ytapbnbinoakbhaa.ZGro
open Go.RowKit Go.Proofs.YtapbnbinoakbhaaW.PrintWords Go.Proofs.Ytapbnbinoakbhaa.Common Go.Proofs.Ytapbnbinoakbhaa.SlcQ Go.Proofs.Ytapbnbinoakbhaa.SlcA Go.Proofs.Ytapbnbinoakbhaa.ZCol Go.Proofs.Ytapbnbinoakbhaa.ZReg Go.Proofs.Ytapbnbinoakbhaa.IMap Go.Proofs.Ytapbnbinoakbhaa.ZWid Go.Proofs.Ytapbnbinoakbhaa.ZPad Go.Proofs.Ytapbnbinoakbhaa.GrowP
set_option linter.unusedVariables false
set_option linter.unusedSimpArgs false
set_option maxRecDepth 1000000

theorem to_zg {W : World} {S : Array Value} {xs : List Int} {bt mr : Nat} {g kb : Nat} {D : Option Addr} {kd : Nat} {w : World} (least len : Int) (hS : S[52]? = some (.int .i64 least)) (h : Z1 W S xs bt mr (some ⟨g, 0, none⟩) kb D kd (mapF (fun _ => false) xs.length) w) :
    w.cell? ⟨bt, 13, none⟩ = some (.int .i64 0) ∧ w.frozen? ⟨bt, 13, none⟩ = false ∧ ZG W W.heap.size bt W.heap.size mr xs.length g kb least len xs (w.setCell ⟨bt, 13, none⟩ (.int .i64 len)) := by
  obtain ⟨T, ht, hb⟩ := h.tbl
  have hsz : 13 < T.size := by have := ht.f13; exact (Array.getElem?_eq_some_iff.1 this).1
  have hset : (w.setCell ⟨bt, 13, none⟩ (.int .i64 len)).heap[bt]? = some (.cells (T.setIfInBounds 13 (.int .i64 len)) 153 (0, 0)) := by
    simp [World.setCell, Array.getElem?_modify, hb]
  have n1 := type_ne hb h.sty (by decide)
  have n2 : bt ≠ mr := fun e => by
    subst e
    obtain ⟨es, ck, hm, _⟩ := h.map
    rw [hb] at hm
    cases hm
  have hrest : ∀ k, k ≠ bt → (w.setCell ⟨bt, 13, none⟩ (.int .i64 len)).heap[k]? = w.heap[k]? := fun k hk => by
    simp [World.setCell, Array.getElem?_modify, Ne.symm hk]
  have other : ∀ k, k ≠ 13 → (T.setIfInBounds 13 (.int .i64 len))[k]? = T[k]? := fun k hk => by
    rw [Array.getElem?_setIfInBounds, if_neg (Ne.symm hk)]
  refine ⟨(cell_of_row _ _ _ _ _ _ hb).trans ht.f13, by simp [World.frozen?, hb], ⟨⟨_, hset, (other 14 (by decide)).trans ht.f14, (other 11 (by decide)).trans ht.f11, (other 6 (by decide)).trans ht.f6, by simp [hsz], (other 39 (by decide)).trans ht.f39⟩, ⟨S, (hrest _ (Ne.symm n1)).trans h.sty, hS⟩, imap_setCell h.map _ n2 _, ?_, rfl, h.below.setCell h.lbt _⟩⟩
  exact own_move h.row (fun k hk => hrest k (fun e => by
    subst e
    obtain ⟨c, hc⟩ := own_typed h.row k hk
    exact type_ne hb hc (by decide) rfl))
theorem wp_load_row {P : Program} {ops : Array Oper} {rest : List Oper} {o : Oper} {a : Act} {w : World} {Q : Exit → Act → World → Prop} (t : TypeId) (ad : Addr) (v : Value) (hrun : (loadVar t ad).run P w = .ok v w) (hg : o.guard = none) (x : Operand) (ho : o.op = .load t x) (hx : a.eval x = .pointer (some ad))
    (h : wpList P ops Q rest (a.put o.dst v) w) : wpList P ops Q (o :: rest) a w := by
  refine wpList_plain hg fun K' hK' => ?_
  unfold Oper.wp
  have h2 : (Instr.loadAt t (.pointer (some ad))).run P w = .ok v w := hrun
  simp only [execOp, ho, hx, Sem.run_bind, h2, Result.andThen, Sem.run_pure]
  exact hK' _ _ h
set_option maxHeartbeats 8000000 in
theorem zz_c (A : Option Addr) (cw : Nat) (l : List Int) (Ac : Option Addr) (cc : Nat) (S : Array Value) (least len : Int) (w : World) (g : Nat) (hS : S[52]? = some (.int .i64 least)) (hSz : (Try.prog.info? 108).map (·.size) = some S.size) (hx : CI w A l) (hn : 0 < l.length) (hn40 : l.length ≤ 40) (hl : ∀ x ∈ l, 0 ≤ x ∧ x ≤ 300) (h1 : 0 ≤ least ∧ least ≤ 3000) (h2 : 0 ≤ len ∧ len ≤ 3000)
    (hAc : Ac = some ⟨g, 0, none⟩) (hcf : ∀ j t u, j < l.length → (cfgV false)[t]? = some u → w.cell? ⟨g, j * 16 + t, none⟩ = some u) :
    Calls Try.prog 38 #[.slice A l.length cw, .slice Ac l.length cc, .agg S, .int .i64 len] w fun e w' => ∃ v, e = .returned v ∧ Own w' w.heap.size v (grow l (least - len).toNat) ∧ Below w.heap.size w w' := by
  subst hAc
  have hb : Below w.heap.size w (w.alloc (.cells S 108)) := below_alloc (Below.refl _ _) _
  have C := Aside0.mk (cols_c A cw l (some ⟨g, 0, none⟩) l.length cc S (w.alloc (.cells S 108)) (by omega) (Kd.C_below hx hb) (fun _ => false) (by omega) g (fun _ => rfl) (fun j t u hj hu => pw_cell_below hb (hcf j t u hj hu)))
  have HL := Aside0.mk hl
  have HS := Aside0.mk hS
  have hld := fun W => Aside0.mk (run_loadVar_row (P := Try.prog) (W.alloc (.cells S 108)) W.heap.size 108 108 S (0, 0) _ (heap_alloc_new W _) Try.underlying108 rfl hSz)
  have HBW := Aside0.mk hb
  clear hx hcf hl hb hS
  go_enter Try.func38, Try.ntmps38
  go_wp2_with (first
    | (with_reducible refine wp_load_row 108 ⟨w.heap.size, 0, none⟩ (.agg S) (hld w).out rfl (.tmp 6) rfl rfl ?_)
    | (go_at_call 61; with_reducible refine C.out.mono ?_; rintro e w1 ⟨bt, mr, B, kb, D, kd, rfl, hZ⟩; obtain ⟨g2, k2, e2, hg1, hg2⟩ := hZ.row.form hn; injection e2 with e3 e4 e5; subst e3; subst e5; have ZZ := to_zg least len HS.out hZ; obtain ⟨c13, f13, hZG⟩ := ZZ; have HZ := Aside0.mk hZG; clear hZ hZG))
  all_goals (go_wp2_with (go_at_call 62; refine (pad_c _ _ _ _ _ _ _ _ _ _ _ _ HZ.out (Nat.le_refl _) hn hn40 HL.out h1 h2).mono ?_; rintro e w2 ⟨rfl, hZ2⟩; have q11 := hZ2.cells.2.1; have HZ2 := Aside0.mk hZ2; clear hZ2))
  go_ret
  exact ⟨_, rfl, own_weaken HZ2.out.row HBW.out.size, HBW.out.trans (HZ2.out.below.mono HBW.out.size)⟩
end Go.Proofs.Ytapbnbinoakbhaa.ZGro
