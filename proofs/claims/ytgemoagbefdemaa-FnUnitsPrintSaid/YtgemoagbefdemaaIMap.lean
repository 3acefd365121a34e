/-
  Proved: a map in memory whose keys are whole numbers, said as a plain function from numbers to values: made, looked up, stored into. Conditions: each theorem's own.
-/
import Derived.Maps.Own
import Derived.Maps.OwnOps
import Derived.Below
import Derived.Laws.AppendOwn
namespace Go.Proofs.Ytgemoagbefdemaa.IMap
open Go Go.Maps Go.MapKept Go.ChangeMaps Go.RowKit
set_option linter.unusedVariables false
set_option linter.unusedSimpArgs false
set_option linter.unusedSectionVars false

/-- Block b of w is a map from numbers of kind q; f n is what it holds at n. -/
def imap (w : World) (q : IntKind) (b : Nat) (f : Int → Option Value) : Prop :=
  ∃ es clock, w.heap[b]? = some (.map es clock) ∧ (∀ e ∈ es.toList, ∃ n, e.key = .int q n ∧ (Lit.int q n).wf = true) ∧ es.toList.Pairwise (fun a b => a.key ≠ b.key) ∧
    ∀ n v, f n = some v ↔ ∃ e ∈ es.toList, e.key = .int q n ∧ e.val = v

theorem imap_made (w : World) (q : IntKind) : imap (w.alloc (.map #[] 0)) q w.heap.size (fun _ => none) :=
  ⟨#[], 0, (MapKept.heap_alloc w _).1, by simp, by simp, by simp⟩
theorem imap_lt {w : World} {q : IntKind} {b : Nat} {f : Int → Option Value} (h : imap w q b f) : b < w.heap.size := by
  obtain ⟨es, clock, hb, _⟩ := h
  exact (Array.getElem?_eq_some_iff.1 hb).1
theorem imap_of_heap {w w' : World} {q : IntKind} {b : Nat} {f : Int → Option Value} (h : imap w q b f) (he : w'.heap[b]? = w.heap[b]?) : imap w' q b f := by
  obtain ⟨es, clock, hb, r⟩ := h
  exact ⟨es, clock, he.trans hb, r⟩
theorem imap_below {w w' : World} {q : IntKind} {b B : Nat} {f : Int → Option Value} (h : imap w q b f) (hb : Below B w w') (hlt : b < B) : imap w' q b f :=
  imap_of_heap h (hb.block b hlt)
theorem imap_alloc {w : World} {q : IntKind} {b : Nat} {f : Int → Option Value} (h : imap w q b f) (o : Obj) : imap (w.alloc o) q b f :=
  imap_below h ((Below.refl _ w).alloc (Nat.le_refl _) o) (imap_lt h)
theorem imap_drew {w : World} {q : IntKind} {b : Nat} {f : Int → Option Value} (h : imap w q b f) : imap w.drew q b f := imap_of_heap h rfl
theorem imap_setCell {w : World} {q : IntKind} {b : Nat} {f : Int → Option Value} (h : imap w q b f) (p : Addr) (hp : p.block ≠ b) (v : Value) : imap (w.setCell p v) q b f := by
  refine imap_of_heap h ?_
  simp [World.setCell, Array.getElem?_modify, hp]

variable {P : Program} {w : World} {q : IntKind} {b : Nat} {f : Int → Option Value} {t k e : TypeId}

theorem ikeys {es : Array MapEntry} (hk : P.underlying k = some (.int q)) (h : ∀ e ∈ es.toList, ∃ n, e.key = .int q n ∧ (Lit.int q n).wf = true) : ∀ e ∈ es.toList, ∃ l, keyOf P k e.key = some l := by
  intro e he
  obtain ⟨n, hn, hw⟩ := h e he
  exact ⟨_, by rw [hn]; exact keyOf_int_mk hk hw⟩

/-- The look-up, with ok or without. -/
theorem imap_lookup (h : imap w q b f) (ht : P.underlying t = some (.map k e)) (hk : P.underlying k = some (.int q)) {z : Value} (hz : (zeroValue e).run P w = .ok z w) (n : Int) (hw : (Lit.int q n).wf = true) (ok : Bool) :
    (Instr.lookup t (.map (some b)) (.int q n) ok).run P w = .ok (if ok then .tuple #[(f n).getD z, .bool (f n).isSome] else (f n).getD z) w := by
  obtain ⟨es, clock, hb, hkey, hpw, hf⟩ := h
  have K := int_keyed hk
  have hkl : keyOf P k (.int q n) = some (.int q n) := keyOf_int_mk hk hw
  rcases K.find w hkl es.toList (ikeys hk hkey) with ⟨h1, h2⟩ | ⟨j, e0, h1, h2, h3⟩
  · have hn : f n = none := by
      cases hh : f n with
      | none => rfl
      | some v => obtain ⟨e1, he1, hk1, _⟩ := (hf n v).1 hh; exact absurd hk1 (h2 e1 he1)
    rw [hn]
    cases ok <;> simp [Instr.lookup, run_underlying ht, MapKept.run_getObj_map hb, K.check w _ hkl, h1, hz, Result.andThen]
  · have hn : f n = some e0.val := (hf n e0.val).2 ⟨e0, List.mem_of_getElem? h2, h3, rfl⟩
    rw [hn]
    cases ok <;> simp [Instr.lookup, run_underlying ht, MapKept.run_getObj_map hb, K.check w _ hkl, h1, Result.andThen]

/-- The look-up in the nil map. -/
theorem nil_lookup (ht : P.underlying t = some (.map k e)) (hk : P.underlying k = some (.int q)) {z : Value} (hz : (zeroValue e).run P w = .ok z w) (n : Int) (hw : (Lit.int q n).wf = true) (ok : Bool) :
    (Instr.lookup t (.map none) (.int q n) ok).run P w = .ok (if ok then .tuple #[z, .bool false] else z) w := by
  have K := int_keyed hk
  have hkl : keyOf P k (.int q n) = some (.int q n) := keyOf_int_mk hk hw
  rcases K.find w hkl [] (by simp) with ⟨h1, h2⟩ | ⟨j, e0, h1, h2, h3⟩
  · cases ok <;> simp [Instr.lookup, run_underlying ht, K.check w _ hkl, h1, hz, Result.andThen]
  · simp at h2

/-- The store. -/
theorem imap_store (h : imap w q b f) (ht : P.underlying t = some (.map k e)) (hk : P.underlying k = some (.int q)) (n : Int) (hw : (Lit.int q n).wf = true) (val : Value) :
    ∃ w', (Instr.mapUpdate t (.map (some b)) (.int q n) val).run P w = .ok () w' ∧ imap w' q b (fun m => if m = n then some val else f m) ∧ w.grownBy w' (some b) := by
  obtain ⟨es, clock, hb, hkey, hpw, hf⟩ := h
  have K := int_keyed hk
  have hkl : keyOf P k (.int q n) = some (.int q n) := keyOf_int_mk hk hw
  rcases K.find w hkl es.toList (ikeys hk hkey) with ⟨h1, h2⟩ | ⟨j, e0, h1, h2, h3⟩
  · refine ⟨setBlock w b (.map (es.push ⟨.int q n, val, clock⟩) (clock + 1)), ?_, ⟨_, _, heap_setBlock_same hb _, ?_, ?_, ?_⟩, ⟨rfl, rfl, rfl, by simp [setBlock], fun i _ hi => heap_setBlock_other hb _ (fun e => hi (by rw [e]))⟩⟩
    · simp [Instr.mapUpdate, run_underlying ht, MapKept.run_getObj_map hb, K.check w false hkl, h1, MapKept.run_setObj_map _ hb, Result.andThen, setBlock]
    · intro x hx
      simp only [Array.toList_push, List.mem_append, List.mem_singleton] at hx
      rcases hx with hx | rfl
      · exact hkey x hx
      · exact ⟨n, rfl, hw⟩
    · rw [Array.toList_push, List.pairwise_append]
      refine ⟨hpw, by simp, fun x hx y hy => ?_⟩
      simp at hy
      subst hy
      exact h2 x hx
    · intro m v
      simp only [Array.toList_push, List.mem_append, List.mem_singleton]
      by_cases hm : m = n
      · subst hm
        rw [if_pos rfl]
        constructor
        · intro hv
          cases hv
          exact ⟨_, Or.inr rfl, rfl, rfl⟩
        · rintro ⟨x, hx | rfl, hxk, hxv⟩
          · exact absurd hxk (h2 x hx)
          · rw [← hxv]
      · rw [if_neg hm, hf m v]
        constructor
        · rintro ⟨x, hx, hxk, hxv⟩
          exact ⟨x, Or.inl hx, hxk, hxv⟩
        · rintro ⟨x, hx | rfl, hxk, hxv⟩
          · exact ⟨x, hx, hxk, hxv⟩
          · simp at hxk
            exact absurd hxk.symm hm
  · have hj : es[j]? = some e0 := by simpa using h2
    have hlist : (es.modify j (fun e' => { e' with key := .int q n, val := val })).toList = es.toList.set j { e0 with key := .int q n, val := val } := by rw [Array.toList_modify, modify_eq_set _ _ _ _ h2]
    have hjl : j < es.toList.length := (List.getElem?_eq_some_iff.1 h2).1
    have hje : es.toList[j] = e0 := (List.getElem?_eq_some_iff.1 h2).2
    have hkeys : (es.toList.set j { e0 with key := .int q n, val := val }).map (·.key) = es.toList.map (·.key) := by
      rw [List.map_set]
      refine List.ext_getElem (by simp) fun i h1 h2 => ?_
      rw [List.getElem_set]
      split
      · rename_i hji
        subst hji
        simp only [List.getElem_map, hje, h3]
      · rfl
    have others : ∀ i (hi : i < es.toList.length), i ≠ j → es.toList[i].key ≠ .int q n := by
      intro i hi hne heq
      rw [List.pairwise_iff_getElem] at hpw
      rcases Nat.lt_or_gt_of_ne hne with hl | hl
      · exact hpw i j hi hjl hl (by rw [heq, hje, h3])
      · exact hpw j i hjl hi hl (by rw [heq, hje, h3])
    refine ⟨setBlock w b (.map (es.modify j (fun e' => { e' with key := .int q n, val := val })) clock), ?_, ⟨_, _, heap_setBlock_same hb _, ?_, ?_, ?_⟩, ⟨rfl, rfl, rfl, by simp [setBlock], fun i _ hi => heap_setBlock_other hb _ (fun e => hi (by rw [e]))⟩⟩
    · simp [Instr.mapUpdate, run_underlying ht, MapKept.run_getObj_map hb, K.check w false hkl, h1, hj, h3, K.stays w hkl, MapKept.run_setObj_map _ hb, Result.andThen, setBlock]
    · intro x hx
      rw [hlist] at hx
      obtain ⟨i, hi, ex⟩ := List.getElem_of_mem hx
      rw [List.getElem_set] at ex
      split at ex
      · subst ex; exact ⟨n, rfl, hw⟩
      · subst ex; exact hkey _ (List.getElem_mem _)
    · have : (List.map (·.key) (es.modify j (fun e' => { e' with key := .int q n, val := val })).toList).Pairwise (fun a b => a ≠ b) := by
        rw [hlist, hkeys, List.pairwise_map]
        exact hpw
      rw [List.pairwise_map] at this
      exact this
    · intro m v
      rw [hlist]
      by_cases hm : m = n
      · subst hm
        simp only [if_true]
        constructor
        · intro hv
          cases hv
          exact ⟨_, List.mem_iff_getElem.2 ⟨j, by simpa using hjl, by rw [List.getElem_set_self]⟩, rfl, rfl⟩
        · rintro ⟨x, hx, hxk, hxv⟩
          obtain ⟨i, hi, ex⟩ := List.getElem_of_mem hx
          rw [List.getElem_set] at ex
          split at ex
          · subst ex; rw [← hxv]
          · rename_i hne
            subst ex
            exact absurd hxk (others i (by simpa using hi) (fun e => hne e.symm))
      · simp only [if_neg hm, hf m v]
        constructor
        · rintro ⟨x, hx, hxk, hxv⟩
          obtain ⟨i, hi, ex⟩ := List.getElem_of_mem hx
          have hne : j ≠ i := by
            intro e1
            subst e1
            rw [hje] at ex
            subst ex
            rw [h3] at hxk
            simp at hxk
            exact hm hxk.symm
          exact ⟨x, List.mem_iff_getElem.2 ⟨i, by simpa using hi, by rw [List.getElem_set_ne hne]; exact ex⟩, hxk, hxv⟩
        · rintro ⟨x, hx, hxk, hxv⟩
          obtain ⟨i, hi, ex⟩ := List.getElem_of_mem hx
          rw [List.getElem_set] at ex
          split at ex
          · subst ex
            simp at hxk
            exact absurd hxk.symm hm
          · subst ex
            exact ⟨_, List.getElem_mem _, hxk, hxv⟩

/-- The look-up at the operation. -/
theorem wp_lookup {ops : Array Oper} {rest : List Oper} {o : Oper} {a : Act} {Q : Exit → Act → World → Prop}
    (hg : o.guard = none) (m x : Operand) (ok : Bool) (hop : o.op = Op.lookup t m x ok) (ht : P.underlying t = some (.map k e)) (hk : P.underlying k = some (.int q)) (z : Value) (hz : (zeroValue e).run P w = .ok z w)
    (hm : a.eval m = .map (some b)) (h : imap w q b f) (n : Int) (hx : a.eval x = .int q n) (hw : (Lit.int q n).wf = true)
    (hK : wpList P ops Q rest (a.put o.dst (if ok then .tuple #[(f n).getD z, .bool (f n).isSome] else (f n).getD z)) w) :
    wpList P ops Q (o :: rest) a w := by
  refine wpList_plain hg fun K' hK' => ?_
  unfold Oper.wp
  have hrun := imap_lookup h ht hk hz n hw ok
  simp only [execOp, hop, hm, hx, Sem.run_bind, hrun, Result.andThen, Sem.run_pure]
  exact hK' _ _ hK
/-- The store at the operation. -/
theorem wp_store {ops : Array Oper} {rest : List Oper} {o : Oper} {a : Act} {Q : Exit → Act → World → Prop}
    (hg : o.guard = none) (m x v : Operand) (hop : o.op = Op.mapUpdate t m x v) (ht : P.underlying t = some (.map k e)) (hk : P.underlying k = some (.int q))
    (hm : a.eval m = .map (some b)) (h : imap w q b f) (n : Int) (hx : a.eval x = .int q n) (hw : (Lit.int q n).wf = true)
    (hK : ∀ w', imap w' q b (fun m => if m = n then some (a.eval v) else f m) → w.grownBy w' (some b) → wpList P ops Q rest (a.put o.dst undef) w') :
    wpList P ops Q (o :: rest) a w := by
  refine wpList_plain hg fun K' hK' => ?_
  obtain ⟨w', hrun, r1, r2⟩ := imap_store h ht hk n hw (a.eval v)
  unfold Oper.wp
  simp [execOp, hop, hm, hx, hrun, Result.andThen]
  exact hK' _ _ (hK w' r1 r2)
/-- The store of a literal's entry at the operation. -/
theorem wp_insert {ops : Array Oper} {rest : List Oper} {o : Oper} {a : Act} {Q : Exit → Act → World → Prop}
    (hg : o.guard = none) (m x v : Operand) (hop : o.op = Op.insert t m x v) (ht : P.underlying t = some (.map k e)) (hk : P.underlying k = some (.int q))
    (hm : a.eval m = .map (some b)) (h : imap w q b f) (n : Int) (hx : a.eval x = .int q n) (hw : (Lit.int q n).wf = true)
    (hK : ∀ w', imap w' q b (fun m => if m = n then some (a.eval v) else f m) → w.grownBy w' (some b) → wpList P ops Q rest (a.put o.dst undef) w') :
    wpList P ops Q (o :: rest) a w := by
  refine wpList_plain hg fun K' hK' => ?_
  obtain ⟨w', hrun, r1, r2⟩ := imap_store h ht hk n hw (a.eval v)
  unfold Oper.wp
  simp [execOp, hop, hm, hx, hrun, Result.andThen]
  exact hK' _ _ (hK w' r1 r2)
end Go.Proofs.Ytgemoagbefdemaa.IMap
