/-
  Proved: a step of a loop over a map in memory, wherever its iterator lies. Conditions: no entry has been laid into the map since the loop began.
-/
import Derived.Test.YtphnnbbgcnilgaaIMapN
import Derived.Laws.IdiomRangeMap
namespace Go.Proofs.Ytphnnbbgcnilgaa.CacN
open Go Go.Maps Go.MapKept Go.ChangeMaps Go.RowKit Go.Proofs.Ytphnnbbgcnilgaa.IMapN
set_option linter.unusedVariables false
set_option linter.unusedSimpArgs false
variable {P : Program}
theorem run_setObj_iter {w : World} {r : Nat} {a : Option Nat} {s c : Nat} {seen : Array Nat} (h : w.heap[r]? = some (.mapIter a s seen c)) (o : Obj) : (setObj r o).run P w = .ok () (setBlock w r o) := by
  simp only [setObj, Sem.run, h]
  rfl
theorem next_at (w : World) (ty : TypeId) (r bm since c0 : Nat) (seen : Array Nat) (es : Array MapEntry) (clock : Nat) (hr : w.heap[r]? = some (.mapIter (some bm) since seen c0)) (hb : w.heap[bm]? = some (.map es clock)) (hold : ∀ x ∈ es.toList, x.born < since) (hsc : since ≤ c0) :
    ((leftOf es seen).size = 0 ∧ (Instr.next (.pointer (some ⟨r, 0, none⟩)) false ty).run P w = .ok (.tuple #[.bool false]) w) ∨
    ∃ e ∈ (leftOf es seen).toList, ∃ w1 : World, (w1 = w ∨ w1 = w.drew) ∧ (Instr.next (.pointer (some ⟨r, 0, none⟩)) false ty).run P w = .ok (.tuple #[.bool true, e.key, e.val]) (setBlock w1 r (.mapIter (some bm) since (seen.push e.born) clock)) := by
  simp only [Instr.next, getObj, Sem.run_bind, Sem.run, hr, hb, Result.andThen, next_test_false seen es since c0 hold hsc, Bool.false_eq_true, if_false]
  unfold leftOf
  have hmem : ∀ x ∈ (Array.filter (fun e => !seen.contains e.born) es).toList, x.born < since := fun x hx => hold x (by simp at hx ⊢; exact hx.1)
  generalize Array.filter (fun e => !seen.contains e.born) es = L at hmem ⊢
  have e1 : L.filter (fun x => decide (x.born < since)) = L := Array.filter_eq_self.2 (fun x hx => by simpa using hmem x (by simpa using hx))
  have e2 : L.filter (fun x => decide (x.born ≥ since)) = #[] := by
    rw [Array.filter_eq_empty_iff]
    intro x hx
    have := hmem x (by simpa using hx)
    simp
    omega
  simp only [e1, e2, Array.append_empty]
  by_cases h0 : L.size = 0
  · left
    have : L = #[] := Array.eq_empty_of_size_eq_zero h0
    subst this
    refine ⟨rfl, ?_⟩
    simp [choose, Sem.run, Question.forced]
  · right
    have hne : L.isEmpty = false := by simp [Array.isEmpty, h0]
    simp only [hne, Bool.false_eq_true, if_false, Array.empty_append, Array.size_map]
    have hch : ∃ (j : Nat) (w1 : World), j < L.size ∧ (w1 = w ∨ w1 = w.drew) ∧ (choose (Question.mapNext L.size)).run P w = .ok j w1 := by
      by_cases hf : L.size ≤ 1
      · exact ⟨0, w, by omega, Or.inl rfl, by simp [choose, Sem.run, Question.forced, hf]⟩
      · exact ⟨_, w.drew, Nat.mod_lt _ (by omega), Or.inr rfl, by
          simp only [choose, Sem.run, Question.forced, decide_eq_true_eq, hf, if_false, Question.cut]
          rfl⟩
    obtain ⟨j, w1, hj, hal, hrun⟩ := hch
    refine ⟨L[j], by simp, w1, hal, ?_⟩
    have hr1 : w1.heap[r]? = some (.mapIter (some bm) since seen c0) := by rcases hal with rfl | rfl <;> exact hr
    have hset : ∀ o', (setObj r o').run P w1 = .ok () (setBlock w1 r o') := fun o' => run_setObj_iter hr1 o'
    simp only [hrun, Array.getElem?_map, Array.getElem?_eq_getElem hj, Option.map_some, Sem.run_bind, hset, Result.andThen]
    rfl
theorem entry_at (w : World) (r bm since : Nat) (seen : Array Nat) (es : Array MapEntry) (clock : Nat) (e : MapEntry) (hr : w.heap[r]? = some (.mapIter (some bm) since (seen.push e.born) clock)) (hb : w.heap[bm]? = some (.map es clock)) (he : e ∈ es.toList) (hn : (es.toList.map (·.born)).Nodup) :
    (Instr.entry (.pointer (some ⟨r, 0, none⟩))).run P w = .ok (.tuple #[e.key, e.val]) w := by
  have hf : es.find? (·.born == e.born) = some e := by rw [← Array.find?_toList]; exact find_born e es.toList hn he
  simp only [Instr.entry, getObj, Sem.run_bind, Sem.run, hr, hb, Result.andThen, Array.back?_push, bne_self_eq_false, Bool.false_eq_true, if_false, hf]
  rfl
theorem range_at (w : World) (t k e : TypeId) (bm : Nat) (es : Array MapEntry) (clock : Nat) (ht : P.underlying t = some (.map k e)) (hb : w.heap[bm]? = some (.map es clock)) :
    (Instr.range t (.map (some bm))).run P w = .ok (.pointer (some ⟨w.heap.size, 0, none⟩)) (w.alloc (.mapIter (some bm) clock #[] clock)) := run_range_map w t k e bm es clock ht hb
end Go.Proofs.Ytphnnbbgcnilgaa.CacN
