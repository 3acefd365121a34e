/-
  Proved: append of a row to a row whose types bear different names; what Append and Prepend of tw.Slicer[int] return. Conditions: the rows as said.
-/
import Derived.Test.YtapbnbinoakbhaaSlcQ
namespace Go.Proofs.Ytapbnbinoakbhaa.SlcA
open Go.RowKit Go.Proofs.YtapbnbinoakbhaaW.PrintWords Go.Proofs.Ytapbnbinoakbhaa.Common Go.Proofs.Ytapbnbinoakbhaa.SlcQ
set_option linter.unusedVariables false
set_option linter.unusedSimpArgs false
set_option maxRecDepth 1000000

theorem append_types {P : Program} {t u e e' : TypeId} (ht : P.underlying t = some (.slice e)) (hu : P.underlying u = some (.slice e')) (ty : TypeId) (s x : Value) (W : World) :
    (Builtin.append_ #[t, u] ty #[s, x]).run P W = (Builtin.append_ #[t, t] ty #[s, x]).run P W := by
  cases s <;> simp [Builtin.append_, run_underlying ht, run_underlying hu]
section
variable {P : Program} {ops : Array Oper} {rest : List Oper} {o : Oper} {a : Act} {Q : Exit → Act → World → Prop}
theorem append_row2 {w0 W : World} (base : Nat) (hgd : o.guard = none) (s x : Operand) (t u e : TypeId) (k : IntKind) (bytes : Nat)
    (ho : o.op = .call { callee := .builtin .append, args := #[s, x], argTypes := #[t, u] })
    (ht : P.underlying t = some (.slice e)) (hu : P.underlying u = some (.slice e)) (hinfo : (P.info? e).map (fun i => (i.zero, i.size, i.bytes)) = some (some (.int k 0), 1, bytes)) (hb0 : 0 < bytes)
    (v : Value) (xs ys : List Int) (A : Option Addr) (m c : Nat) (hs : a.eval s = v) (hx : a.eval x = .slice A m c)
    (HO : W.ownsRow base e 1 v xs.length (nums k xs)) (HR : Kd.C (Kd.int k) W A m ys) (HB : Below base w0 W) (hbase : base ≤ W.heap.size) (hl : (xs.length + m) * bytes ≤ 140737488355328)
    (h : ∀ v1 w1, w1.ownsRow base e 1 v1 (xs ++ ys).length (nums k (xs ++ ys)) → Below base w0 w1 → W.grownBy w1 v.ownBlock → (v1.ownBlock = v.ownBlock ∨ ∃ b, v1.ownBlock = some b ∧ W.heap.size ≤ b) → wpList P ops Q rest (a.put o.dst v1) w1) :
    wpList P ops Q (o :: rest) a W := by
  obtain ⟨i0, hi, hzz⟩ := Option.map_eq_some_iff.1 hinfo
  simp only [Prod.mk.injEq] at hzz
  obtain ⟨hz0, hz1, hz2⟩ := hzz
  have hm : ys.length = m := HR.1
  have hlen : xs.length + m ≤ 140737488355328 := Nat.le_trans (Nat.le_mul_of_pos_right _ hb0) hl
  have hrun : ∃ v1 w1, (Builtin.append_ #[t, u] o.type #[v, .slice A m c]).run P W = .ok v1 w1 ∧ w1.ownsRow base e 1 v1 (xs ++ ys).length (nums k (xs ++ ys)) ∧ W.grownBy w1 v.ownBlock ∧ (v1.ownBlock = v.ownBlock ∨ v1.ownBlock = some W.heap.size) := by
    rw [append_types ht hu]
    rcases A with _ | ad
    · have h0 : m = 0 := by
        rcases Nat.eq_zero_or_pos m with h0 | h0
        · exact h0
        · obtain ⟨ad, h, _⟩ := Kd.at_int HR 0 (by omega) (by omega)
          cases h
      subst h0
      obtain rfl : ys = [] := List.eq_nil_of_length_eq_zero hm
      refine ⟨v, W, ?_, by simpa using HO, World.grownBy.refl W _, .inl rfl⟩
      rcases HO.2 with ⟨rfl, hn⟩ | ⟨g, cap, cur, rfl, _, _, hnc, _⟩
      · simp [Builtin.append_, run_underlying ht, sizeOf, typeInfo, hi, Builtin.lenOf, Builtin.firstCells]
      · simp [Builtin.append_, run_underlying ht, sizeOf, typeInfo, hi, Builtin.lenOf, Builtin.firstCells, hnc, storeCells]
    · have hcells : ∀ j v', (nums k ys)[j]? = some v' → W.cell? (ad.add j) = some v' := by
        intro j v' hv'
        have hj : j < ys.length := by
          rcases Nat.lt_or_ge j ys.length with h | h
          · exact h
          · simp [nums, List.getElem?_eq_none h] at hv'
        obtain ⟨ad', h', hc⟩ := Kd.at_int HR (j : Int) (by omega) (by omega)
        injection h' with h'
        subst h'
        simp [nums, List.getElem?_eq_getElem hj] at hv'
        subst hv'
        rw [Int.toNat_natCast] at hc
        rw [hc, rd_at _ _ hj]
      obtain ⟨v1, w1, hr, h2, h3, _, h5⟩ := run_append_own_at (P := P) W base t o.type e i0 (.int k 0) 1 bytes ht hi hz0 hz1 hz2 rfl (by omega) v xs.length (nums k xs) HO ad m c (nums k ys) (by simp [nums, hm]) hcells
        (by intro u hu; simp only [nums, List.mem_map] at hu; obtain ⟨q, _, rfl⟩ := hu; rfl) (by simp only [maxLen]; omega) hl hbase
      exact ⟨v1, w1, hr, by simpa [nums, hm] using h2, h3, h5⟩
  obtain ⟨v1, w1, hr, hown, hg, hat⟩ := hrun
  refine wpList_plain hgd fun K hK => ?_
  unfold Oper.wp execOp
  simp only [ho, resolve, invoke, builtin, Sem.run_bind, Sem.run_pure, Result.andThen_ok, List.map_toArray, List.map_cons, List.map_nil, hs, hx, hr]
  refine hK _ _ (h v1 w1 hown (HB.grown hg hbase (own_base HO)) hg ?_)
  rcases hat with hat | hat
  · exact .inl hat
  · exact .inr ⟨_, hat, Nat.le_refl _⟩
end
abbrev Own (w : World) (base : Nat) (v : Value) (xs : List Int) : Prop := w.ownsRow base 3 1 v xs.length (nums .i64 xs)
theorem Own.slice {w : World} {base : Nat} {v : Value} {xs : List Int} (h : Own w base v xs) : ∃ A c, v = .slice A xs.length c ∧ xs.length ≤ c ∧ CI w A xs :=
  Kd.R_reads (Kd.R_of_own (enc := Value.int .i64) (h1 := fun _ => rfl) (ok := fun k => v.ownBlock = some k) h (fun _ hk => hk))
theorem info3 : (Try.prog.info? 3).map (fun i => (i.zero, i.size, i.bytes)) = some (some (.int .i64 0), 1, 8) := by kernel_rfl
theorem append_c (base : Nat) (w0 W : World) (v : Value) (xs ys : List Int) (A : Option Addr) (c : Nat) (HO : Own W base v xs) (HR : CI W A ys) (HB : Below base w0 W) (hb : base ≤ W.heap.size) (hl : xs.length + ys.length ≤ 17000000000) :
    Calls Try.prog 66 #[v, .slice A ys.length c] W fun e w' => ∃ v1, e = .returned v1 ∧ Own w' base v1 (xs ++ ys) ∧ Below base w0 w' ∧ W.grownBy w' v.ownBlock ∧ (v1.ownBlock = v.ownBlock ∨ ∃ b, v1.ownBlock = some b ∧ W.heap.size ≤ b) := by
  have HOA := Aside0.mk HO
  have HRA := Aside0.mk HR
  have HBA := Aside0.mk HB
  clear HO HR HB
  go_enter Try.func66, Try.ntmps66
  go_wp2_with (first | ((with_reducible refine gate_builtin (b := .append) (xs := #[.tmp 5, .tmp 6]) rfl ?_); at_builtin; refine append_row2 (w0 := w0) base rfl (.tmp 5) (.tmp 6) 113 29 3 .i64 8 rfl Try.underlying113 Try.underlying29 info3 (by decide) v xs ys A ys.length c rfl rfl HOA.out HRA.out HBA.out hb (by omega) ?_; intro v1 w1 ho hbl hg hat; have HO1 := Aside0.mk ho; have HB1 := Aside0.mk hbl; have HG1 := Aside0.mk hg; have HT1 := Aside0.mk hat; clear ho hbl hg hat))
  go_ret
  exact ⟨_, rfl, HO1.out, HB1.out, HG1.out, HT1.out⟩
theorem prepend_c (base : Nat) (w0 W : World) (v : Value) (xs ys : List Int) (A : Option Addr) (c : Nat) (HO : Own W base v xs) (HR : CI W A ys) (HB : Below base w0 W) (hb : base ≤ W.heap.size) (hl : xs.length + ys.length ≤ 17000000000) :
    Calls Try.prog 67 #[.slice A ys.length c, v] W fun e w' => ∃ v1, e = .returned v1 ∧ Own w' base v1 (xs ++ ys) ∧ Below base w0 w' ∧ W.grownBy w' v.ownBlock ∧ (v1.ownBlock = v.ownBlock ∨ ∃ b, v1.ownBlock = some b ∧ W.heap.size ≤ b) := by
  have HOA := Aside0.mk HO
  have HRA := Aside0.mk HR
  have HBA := Aside0.mk HB
  clear HO HR HB
  go_enter Try.func67, Try.ntmps67
  go_wp2_with (first | ((with_reducible refine gate_builtin (b := .append) (xs := #[.tmp 5, .tmp 6]) rfl ?_); at_builtin; refine append_row2 (w0 := w0) base rfl (.tmp 5) (.tmp 6) 29 113 3 .i64 8 rfl Try.underlying29 Try.underlying113 info3 (by decide) v xs ys A ys.length c rfl rfl HOA.out HRA.out HBA.out hb (by omega) ?_; intro v1 w1 ho hbl hg hat; have HO1 := Aside0.mk ho; have HB1 := Aside0.mk hbl; have HG1 := Aside0.mk hg; have HT1 := Aside0.mk hat; clear ho hbl hg hat))
  go_ret
  exact ⟨_, rfl, HO1.out, HB1.out, HG1.out, HT1.out⟩
end Go.Proofs.Ytapbnbinoakbhaa.SlcA
