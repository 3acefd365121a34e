/-
  Proved: a list of entries linked both ways in memory, as a plain list: an entry taken out, an entry put in front. Conditions: none but the list's state.
-/
import Derived.Test.YtphnnbbgcnilgaaIMapN
import Derived.Test.YtphnnbbgcnilgaaWWords
import Derived.Test.YtphnnbbgcnilgaaCommon
import Derived.Test.YtphnnbbgcnilgaaGELx1
import Derived.WalkKit
import Derived.BigCall
import Derived.BigQuiet
import Derived.StillTailTactics
namespace Go.Proofs.Ytphnnbbgcnilgaa.CacA
open Go Go.RowKit Go.Proofs.YtphnnbbgcnilgaaW.PrintWords Go.Proofs.Ytphnnbbgcnilgaa.Common Go.Proofs.Ytphnnbbgcnilgaa.IMapN
set_option linter.unusedVariables false
set_option linter.unusedSimpArgs false
set_option maxRecDepth 1000000

/-- block, key, value -/
abbrev E := Nat × Int × Int
def ptr (o : Option Nat) : Value := .pointer (o.map fun g => ⟨g, 0, none⟩)
def nodeC (k v : Int) (p n : Option Nat) : Array Value := #[.int .i64 k, .int .i64 v, ptr p, ptr n]
def headO (l : List E) (n : Option Nat) : Option Nat := match l with | [] => n | x :: _ => some x.1
def lastO (p : Option Nat) (l : List E) : Option Nat := match l.getLast? with | none => p | some x => some x.1
def seg (W : World) : Option Nat → List E → Option Nat → Prop
  | _, [], _ => True
  | p, x :: t, n => W.heap[x.1]? = some (.cells (nodeC x.2.1 x.2.2 p (headO t n)) 97 (0, 0)) ∧ seg W (some x.1) t n
theorem lastO_cons (p : Option Nat) (x : E) (t : List E) : lastO p (x :: t) = lastO (some x.1) t := by
  unfold lastO
  cases t with
  | nil => rfl
  | cons y u => rw [List.getLast?_cons_cons]; cases h : (y :: u).getLast? with
    | none => simp at h
    | some z => rfl
theorem lastO_some (x : E) : ∀ (t : List E) (p : Option Nat), ∃ g, lastO p (x :: t) = some g := by
  intro t p
  unfold lastO
  cases h : (x :: t).getLast? with
  | none => simp at h
  | some y => exact ⟨y.1, rfl⟩
theorem headO_append (a b : List E) (n : Option Nat) : headO (a ++ b) n = headO a (headO b n) := by cases a <;> rfl
theorem seg_append {W : World} : ∀ (a b : List E) (p n : Option Nat), seg W p (a ++ b) n ↔ seg W p a (headO b n) ∧ seg W (lastO p a) b n
  | [], b, p, n => by simp [seg, lastO]
  | x :: t, b, p, n => by
    rw [List.cons_append, seg, seg, headO_append, seg_append t b, lastO_cons, and_assoc]
theorem seg_frame {W W1 : World} : ∀ (l : List E) (p n : Option Nat), seg W p l n → (∀ x ∈ l, W1.heap[x.1]? = W.heap[x.1]?) → seg W1 p l n
  | [], _, _, _, _ => trivial
  | x :: t, p, n, h, hf => ⟨(hf x (by simp)).trans h.1, seg_frame t _ _ h.2 (fun y hy => hf y (by simp [hy]))⟩
theorem set_blk (W : World) (q j : Nat) (T : Array Value) (t : Nat) (u : Value) (h : W.heap[q]? = some (.cells T t (0, 0))) : (W.setCell ⟨q, j, none⟩ u).heap[q]? = some (.cells (T.setIfInBounds j u) t (0, 0)) := blk_set h j u
theorem set_far (W : World) (q j b : Nat) (u : Value) (h : b ≠ q) : (W.setCell ⟨q, j, none⟩ u).heap[b]? = W.heap[b]? := Below.heap_setCell W ⟨q, j, none⟩ u b h
/-- the first one's prev is written -/
theorem seg_prev {W : World} {x : E} {t : List E} {p n : Option Nat} (h : seg W p (x :: t) n) (hd : ∀ y ∈ t, y.1 ≠ x.1) (p' : Option Nat) : seg (W.setCell ⟨x.1, 2, none⟩ (ptr p')) p' (x :: t) n := by
  refine ⟨(set_blk W x.1 2 _ _ _ h.1).trans rfl, seg_frame t _ _ h.2 (fun y hy => set_far W x.1 2 y.1 _ (hd y hy))⟩
/-- the last one's next is written -/
theorem seg_next {W : World} {a : List E} {x : E} {p n : Option Nat} (h : seg W p (a ++ [x]) n) (hd : ∀ y ∈ a, y.1 ≠ x.1) (n' : Option Nat) : seg (W.setCell ⟨x.1, 3, none⟩ (ptr n')) p (a ++ [x]) n' := by
  rw [seg_append] at h ⊢
  refine ⟨seg_frame a _ _ h.1 (fun y hy => set_far W x.1 3 y.1 _ (hd y hy)), (set_blk W x.1 3 _ _ _ h.2.1).trans rfl, trivial⟩
/-- the list hangs on block C: its size, map, callback (none), hits and misses beside it -/
def headC (ev : Value) (sz : Int) (m : Nat) (hits miss : Int) (h t : Option Nat) : Array Value := #[.int .i64 sz, .map (some m), ptr h, ptr t, ev, .int .i64 hits, .int .i64 miss]
structure DL (ev : Value) (C : Nat) (sz : Int) (m : Nat) (hits miss : Int) (l : List E) (W : World) : Prop where
  hd : W.heap[C]? = some (.cells (headC ev sz m hits miss (headO l none) (lastO none l)) 94 (0, 0))
  sg : seg W none l none
  nd : l.Pairwise fun a b => a.1 ≠ b.1
theorem seg_mem {W : World} : ∀ (l : List E) (p n : Option Nat), seg W p l n → ∀ x ∈ l, ∃ p' n', W.heap[x.1]? = some (.cells (nodeC x.2.1 x.2.2 p' n') 97 (0, 0))
  | y :: t, p, n, h, x, hx => by
    rcases List.mem_cons.1 hx with rfl | hx
    · exact ⟨_, _, h.1⟩
    · exact seg_mem t _ _ h.2 x hx
/-- what stays: all blocks but the list's own -/
structure Away (C : Nat) (l : List E) (W W1 : World) : Prop where
  size : W1.heap.size = W.heap.size
  blk : ∀ b, b ≠ C → (∀ x ∈ l, x.1 ≠ b) → W1.heap[b]? = W.heap[b]?
  bel : ∀ B w0, Below B w0 W → B ≤ C → (∀ x ∈ l, B ≤ x.1) → Below B w0 W1
theorem typ_ne {W : World} {a b : Nat} {T U : Array Value} {t u : Nat} (h1 : W.heap[a]? = some (.cells T t (0, 0))) (h2 : W.heap[b]? = some (.cells U u (0, 0))) (ht : t ≠ u) : a ≠ b := by
  rintro rfl
  rw [h1] at h2
  injection h2 with h2
  injection h2 with _ h2
  exact ht h2
end Go.Proofs.Ytphnnbbgcnilgaa.CacA
