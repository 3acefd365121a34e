/-
  Proved: what table.zzColumns lays. Conditions: at most 1000 columns.
-/
import Derived.Test.YtapbnbinoakbhaaSlcA
import Derived.RegionTactic
import Derived.BigRegion
import Derived.Deep.RegionLaw
import Derived.Deep.RegionLawGrows
import Derived.Deep.CutBlock
import Derived.Laws.Tables
import Derived.Test.YtapbnbinoakbhaaIMap
namespace Go.Proofs.Ytapbnbinoakbhaa.ZCol
open Go.RowKit Go.Proofs.YtapbnbinoakbhaaW.PrintWords Go.Proofs.Ytapbnbinoakbhaa.Common Go.Proofs.Ytapbnbinoakbhaa.SlcQ Go.Proofs.Ytapbnbinoakbhaa.SlcA
set_option linter.unusedVariables false
set_option linter.unusedSimpArgs false
set_option maxRecDepth 1000000

structure TF (T : Array Value) (a b c d e : Value) : Prop where
  f14 : T[14]? = some a
  f11 : T[11]? = some b
  f6 : T[6]? = some c
  f4 : T[4]? = some d
  f39 : T[39]? = some e
  f13 : T[13]? = some (.int .i64 0)
  f20 : T[20]? = some (.slice none 0 0)
  f25 : T[25]? = some (.slice none 0 0)
  f28 : T[28]? = some (.slice none 0 0)
def parts5 (n : Int) (B : Option Addr) (kb cb r : Nat) (D : Option Addr) (kd cd : Nat) (p : Addr) : List (Nat × Value) := [(14, .int .i64 n), (11, .slice B kb cb), (6, .map (some r)), (4, .slice D kd cd), (37, .pointer (some p))]
theorem T_ex : ∃ T : Int → Option Addr → Nat → Nat → Nat → Option Addr → Nat → Nat → Addr → Array Value, (∀ n B kb cb r D kd cd p, Try.prog.built 153 [(14, .int .i64 n), (11, .slice B kb cb), (6, .map (some r)), (4, .slice D kd cd), (37, .pointer (some p))] = some (T n B kb cb r D kd cd p)) ∧ ∀ n B kb cb r D kd cd p, TF (T n B kb cb r D kd cd p) (.int .i64 n) (.slice B kb cb) (.map (some r)) (.slice D kd cd) (.pointer (some p)) := by
  refine ⟨fun n B kb cb r D kd cd p => (Try.prog.built 153 (parts5 n B kb cb r D kd cd p)).getD #[], fun n B kb cb r D kd cd p => ?_, fun n B kb cb r D kd cd p => ⟨by kernel_rfl, by kernel_rfl, by kernel_rfl, by kernel_rfl, by kernel_rfl, by kernel_rfl, by kernel_rfl, by kernel_rfl, by kernel_rfl⟩⟩
  have h : (Try.prog.built 153 (parts5 n B kb cb r D kd cd p)).isSome = true := by kernel_rfl
  obtain ⟨T, hT⟩ := Option.isSome_iff_exists.1 h
  show Try.prog.built 153 (parts5 n B kb cb r D kd cd p) = some ((Try.prog.built 153 (parts5 n B kb cb r D kd cd p)).getD #[])
  rw [hT]
  rfl
theorem info4 : (Try.prog.info? 4).map (fun i => (i.zero, i.size, i.bytes)) = some (some (.bool false), 1, 1) := by kernel_rfl
/-- One operation of a region that has run. -/
theorem stp {P : Program} {ops : Array Oper} {o : Oper} {a : Act} {w w' : World} {K : Act → World → Prop} {Q : Exit → Act → World → Prop} {E : Prop} (v : Value) (hg : o.guard = none) (hrun : (execOp a.eval o).run P w = .ok (.value v) w') (h : K (a.put o.dst v) w') :
    if Region.wanted o (yielded ops a.tmps) = true then Oper.wp P o a w K Q else E := by
  rw [if_pos (by simp [Region.wanted, hg])]
  unfold Oper.wp
  rw [hrun]
  exact h
structure Stp (ops : Array Oper) (o : Oper) (a : Act) (w : World) (K : Act → World → Prop) (Q : Exit → Act → World → Prop) (E : Prop) : Prop where
  out : if Region.wanted o (yielded ops a.tmps) = true then Oper.wp Try.prog o a w K Q else E
theorem readyCons {md : Region.Mode} {ops : Array Oper} {Q : Exit → Act → World → Prop} {fuel : Nat} {listed : Array Bool} {a : Act} {w : World} {i : Nat} {o : Oper} {rs : List Nat} (ho : ops[i]? = some o)
    (h : ∀ K' : Act → World → Prop, (∀ a w, wpAny Try.prog md ops Q fuel (listed.setIfInBounds i true) a w → K' a w) → Stp ops o a w K' Q (K' (a.put o.dst undef) w))
    (hs : AllReady Try.prog md ops Q fuel listed a w rs) : AllReady Try.prog md ops Q fuel listed a w (i :: rs) := AllReady.cons ho (fun K hK => (h K hK).out) hs
section
variable {ops : Array Oper} {o : Oper} {a : Act} {w : World} {K : Act → World → Prop} {Q : Exit → Act → World → Prop} {E : Prop}
theorem st2 (hg : o.guard = none) (ho : o.op = .buildSlice 29 0 #[]) (h : ∀ g w', Own w' w.heap.size (.slice (some ⟨g, 0, none⟩) 0 0) [] → Below w.heap.size w w' → K (a.put o.dst (.slice (some ⟨g, 0, none⟩) 0 0)) w') :
    Stp ops o a w K Q E := by
  refine ⟨?_⟩
  have hrun : (execOp a.eval o).run Try.prog w = .ok (.value (.slice (some ⟨w.heap.size, 0, none⟩) 0 0)) (w.alloc (.cells #[] 3)) := by
    simp only [execOp, ho]
    go_simp
  exact stp _ hg hrun (h _ _ (own_lit w w.heap.size 3 .i64 [] (Nat.le_refl _) (by simp)) (below_alloc (Below.refl _ _) _))
theorem st5 (hg : o.guard = none) (ho : o.op = .makeMap 133 none) (h : ∀ mr w', IMap.imap w' .i64 mr (fun _ => none) → w.heap.size ≤ mr → Below w.heap.size w w' → K (a.put o.dst (.map (some mr))) w') :
    Stp ops o a w K Q E := by
  refine ⟨?_⟩
  have hrun : (execOp a.eval o).run Try.prog w = .ok (.value (.map (some w.heap.size))) (w.alloc (.map #[] 0)) := by
    have hmm := @run_makeMap Try.prog
    simp only [execOp, ho]
    simp [hmm]
  exact stp _ hg hrun (h _ _ (IMap.imap_made w .i64) (Nat.le_refl _) (below_alloc (Below.refl _ _) _))
theorem st8 (hg : o.guard = none) (s : Operand) (ho : o.op = .makeSlice 44 s s) (n : Nat) (hn : n ≤ 100000) (hs : a.eval s = .int .i64 (n : Int)) (h : ∀ D k w', (∃ cs, w'.ownsRow w.heap.size 4 1 (.slice D n k) n cs) → Below w.heap.size w w' → K (a.put o.dst (.slice D n k)) w') :
    Stp ops o a w K Q E := by
  refine ⟨?_⟩
  have hmk := print_make_of (P := Try.prog) 44 4 (.bool false) 1 Try.underlying44 info4 rfl (by decide) n (by omega) w
  have hrun : (execOp a.eval o).run Try.prog w = .ok (.value (.slice (some ⟨w.heap.size, 0, none⟩) n n)) (w.alloc (.cells (madeCells #[.bool false] n) 4)) := by
    simp only [execOp, ho, hs]
    simp [hmk]
  exact stp _ hg hrun (h _ _ _ ⟨_, World.ownsRow_lit (base := w.heap.size) (e := 4) (size := 1) w (madeCells #[.bool false] n) n (Nat.le_refl _) (by simp [maxLen]; omega) (by simp [size_madeCells])⟩ (below_alloc (Below.refl _ _) _))
theorem st4 (hg : o.guard = none) (s x : Operand) (ho : o.op = .call { callee := .builtin .append, args := #[s, x], argTypes := #[29, 29] }) (base g : Nat) (xs : List Int) (A : Option Addr) (c : Nat) (hs : a.eval s = .slice (some ⟨g, 0, none⟩) 0 0) (hx : a.eval x = .slice A xs.length c)
    (HO : Own w base (.slice (some ⟨g, 0, none⟩) 0 0) []) (HR : CI w A xs) (hb : base ≤ w.heap.size) (hl : xs.length ≤ 100000) (h : ∀ B k w', Own w' base (.slice B xs.length k) xs → Below w.heap.size w w' → K (a.put o.dst (.slice B xs.length k)) w') :
    Stp ops o a w K Q E := by
  refine ⟨?_⟩
  by_cases h0 : 0 < xs.length
  · obtain ⟨ad, rfl, _⟩ := Kd.at_int HR 0 (by omega) (by omega)
    obtain ⟨i0, hi, hzz⟩ := Option.map_eq_some_iff.1 info3
    simp only [Prod.mk.injEq] at hzz
    obtain ⟨hz0, hz1, hz2⟩ := hzz
    have hcells : ∀ j v', (nums .i64 xs)[j]? = some v' → w.cell? (ad.add j) = some v' := by
      intro j v' hv'
      have hj : j < xs.length := by
        rcases Nat.lt_or_ge j xs.length with h | h
        · exact h
        · simp [nums, List.getElem?_eq_none h] at hv'
      obtain ⟨ad', h', hc⟩ := Kd.at_int HR (j : Int) (by omega) (by omega)
      injection h' with h'
      subst h'
      simp [nums, List.getElem?_eq_getElem hj] at hv'
      subst hv'
      rw [Int.toNat_natCast] at hc
      rw [hc, rd_at _ _ hj]
    obtain ⟨v', w', hrun, r1, r2⟩ := run_append_arg_grows (P := Try.prog) w 29 o.type 3 i0 (.int .i64 0) 1 8 Try.underlying29 hi hz0 hz1 hz2 rfl (by decide) ⟨g, 0, none⟩ 0 0 [] rfl (by simp) ad xs.length c (nums .i64 xs) (by simp [nums]) hcells (by omega) (by simp only [maxLen]; omega) (by omega)
    have h1 : Own w' base v' xs := own_weaken (by simpa using r1) hb
    obtain ⟨B, k, rfl, _, _⟩ := h1.slice
    have hrun2 : (execOp a.eval o).run Try.prog w = .ok (.value (.slice B xs.length k)) w' := by
      simp [execOp, ho, resolve, invoke, builtin, hs, hx, hrun, Result.andThen]
    exact stp _ hg hrun2 (h _ _ _ h1 ((Below.refl _ w).grown r2 (Nat.le_refl _) (fun k hk => by cases hk)))
  · obtain rfl : xs = [] := List.eq_nil_of_length_eq_zero (by omega)
    obtain ⟨i0, hi, hzz⟩ := Option.map_eq_some_iff.1 info3
    have hr : (Builtin.append_ #[29, 29] o.type #[.slice (some ⟨g, 0, none⟩) 0 0, .slice A 0 c]).run Try.prog w = .ok (.slice (some ⟨g, 0, none⟩) 0 0) w := by
      cases A <;> simp [Builtin.append_, run_underlying Try.underlying29, sizeOf, typeInfo, hi, Builtin.lenOf, Builtin.firstCells, storeCells, loadCells, loadCellsFrom]
    have hrun2 : (execOp a.eval o).run Try.prog w = .ok (.value (.slice (some ⟨g, 0, none⟩) 0 0)) w := by
      simp only [List.length_nil] at hx
      simp [execOp, ho, resolve, invoke, builtin, hs, hx, hr, Result.andThen]
    exact stp _ hg hrun2 (h _ _ _ HO (Below.refl _ _))
theorem st9 (hg : o.guard = none) (T : Array Value) (parts : Array (Nat × Operand)) (ho : o.op = .build 153 parts) (hT : Try.prog.built 153 (parts.map fun (i, x) => (i, a.eval x)).toList = some T) (h : K (a.put o.dst (.agg T)) w) :
    Stp ops o a w K Q E := by
  refine ⟨?_⟩
  rw [if_pos (by simp [Region.wanted, hg])]
  exact wp_build 153 parts ho (by rw [hT]; rfl) (by rw [hT]; exact h)
theorem st10 (hg : o.guard = none) (s : Operand) (ho : o.op = .box 153 s) (T : Array Value) (hs : a.eval s = .agg T) (h : ∀ bt w', w'.heap[bt]? = some (.cells T 153 (0, 0)) → w.heap.size ≤ bt → Below w.heap.size w w' → K (a.put o.dst (.pointer (some ⟨bt, 0, none⟩))) w') :
    Stp ops o a w K Q E := by
  refine ⟨?_⟩
  have hrun : (execOp a.eval o).run Try.prog w = .ok (.value (.pointer (some ⟨w.heap.size, 0, none⟩))) (w.alloc (.cells T 153)) := by
    simp only [execOp, ho, hs]
    go_simp
  exact stp _ hg hrun (h _ _ (heap_alloc_new w _) (Nat.le_refl _) (below_alloc (Below.refl _ _) _))
theorem st11 (hg : o.guard = none) (s : Operand) (ho : o.op = .assign s) (v : Value) (hs : a.eval s = v) (h : K (a.put o.dst v) w) :
    Stp ops o a w K Q E := by
  refine ⟨?_⟩
  have hrun : (execOp a.eval o).run Try.prog w = .ok (.value v) w := by
    simp [execOp, ho, hs]
  exact stp _ hg hrun h
end
end Go.Proofs.Ytapbnbinoakbhaa.ZCol
