/-
  Proved: '[]byte(s)' as a block of bytes that is read, written and turned back to a text. Conditions: none.
-/
import Derived.Test.YtgemoagbefdemaaProg
import Derived.Test.YtgemoagbefdemaaCommon
import Derived.Laws.IdiomStrings
import Derived.Laws.BytesArg
import Derived.Laws.Rows
import Derived.Lib.BufferMore
import Derived.Below
namespace Go.Proofs.Ytgemoagbefdemaa.BRow
open Go.RowKit Go.Proofs.YtgemoagbefdemaaW.PrintWords Go.Proofs.Ytgemoagbefdemaa.Common
set_option linter.unusedVariables false

/-- Block g holds the bytes l (its row may be longer; a cell behind them is frozen); below W0 all is as it was. -/
structure BR (W0 : World) (g : Nat) (l : List UInt8) (W : World) : Prop where
  blk : ∃ (cur : Array Value) (m : Nat), W.heap[g]? = some (.cells cur 5 (m, m + 1)) ∧ l.length ≤ m ∧ l.length ≤ cur.size ∧ ∀ (j : Nat) (h : j < l.length), cur[j]? = some (.int .u8 (l[j].toNat : Int))
  le : W0.heap.size ≤ g
  bel : Below W0.heap.size W0 W
theorem conv_of (s : ByteArray) (w : World) : ∃ cap, (convert 9 50 (.string s)).run Try.prog w = .ok (.slice (some ⟨w.heap.size, 0, none⟩) s.size cap) (w.drew.alloc (.cells (bytesRow s cap) 5 ((bytesRow s cap).size, (bytesRow s cap).size + 1))) :=
  ⟨_, run_bytes_of_string w 9 50 5 s Try.underlying9 Try.underlying50 Try.underlying5⟩
theorem fresh (s : ByteArray) (w : World) (cap : Nat) : BR w w.heap.size s.data.toList (w.drew.alloc (.cells (bytesRow s cap) 5 ((bytesRow s cap).size, (bytesRow s cap).size + 1))) := by
  refine ⟨⟨bytesRow s cap, (bytesRow s cap).size, ?_, ?_, ?_, fun j h => ?_⟩, Nat.le_refl _, ?_⟩
  · show (w.heap.push (.cells (bytesRow s cap) 5 _))[w.heap.size]? = _
    simp
  · simp [bytesRow]
  · simp [bytesRow]
  · have h' : j < s.data.size := by simpa using h
    rw [bytesRow_at s cap j h']
    simp
  · exact below_alloc (below_drew1 (Below.refl _ _)) _
theorem BR.cell {W0 W : World} {g : Nat} {l : List UInt8} (h : BR W0 g l W) (j : Nat) (hj : j < l.length) : W.cell? ⟨g, j, none⟩ = some (.int .u8 (l[j].toNat : Int)) := by
  obtain ⟨cur, m, hb, h1, h2, h3⟩ := h.blk
  rw [cell_of_row W g j cur _ _ hb, h3 j hj]
theorem BR.frozen {W0 W : World} {g : Nat} {l : List UInt8} (h : BR W0 g l W) (j : Nat) (hj : j < l.length) : W.frozen? ⟨g, j, none⟩ = false := by
  obtain ⟨cur, m, hb, h1, h2, h3⟩ := h.blk
  unfold World.frozen?
  rw [hb]
  simp
  omega
theorem BR.store {W0 W : World} {g : Nat} {l : List UInt8} (h : BR W0 g l W) (j : Nat) (c : UInt8) (v : Int) (hv : v = (c.toNat : Int)) : BR W0 g (l.set j c) (W.setCell ⟨g, j, none⟩ (.int .u8 v)) := by
  obtain ⟨cur, m, hb, h1, h2, h3⟩ := h.blk
  refine ⟨⟨cur.setIfInBounds j (.int .u8 v), m, Lib.heap_setCell_same hb _, by simpa using h1, by simpa using h2, fun i hi => ?_⟩, h.le, ?_⟩
  · rw [List.length_set] at hi
    rw [Array.getElem?_setIfInBounds, List.getElem_set]
    by_cases e : j = i
    · subst e
      rw [if_pos rfl, if_pos (by omega), if_pos rfl, hv]
    · rw [if_neg e, if_neg e, h3 i hi]
  · exact h.bel.setCell h.le _
theorem BR.str {W0 W : World} {g : Nat} {l : List UInt8} (h : BR W0 g l W) (cap n : Nat) (hn : n = l.length) : (convert 50 9 (.slice (some ⟨g, 0, none⟩) n cap)).run Try.prog W = .ok (.string (ofL l)) W := by
  subst hn
  exact run_convert_bytes_back W 50 9 5 ⟨g, 0, none⟩ cap l Try.underlying50 Try.underlying5 Try.underlying9 (fun j hj => by
    have := h.cell j hj
    rw [show (⟨g, 0, none⟩ : Addr).add j = ⟨g, j, none⟩ by unfold Addr.add; split <;> simp_all]
    exact this)
end Go.Proofs.Ytgemoagbefdemaa.BRow
