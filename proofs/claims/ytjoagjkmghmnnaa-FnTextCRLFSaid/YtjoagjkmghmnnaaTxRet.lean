/-
  Proved: what spec.TxReturned returns on ASCII texts: the machine of carriage returns over bytes. Conditions: ASCII, at most 1000 bytes.
-/
import Derived.Test.YtjoagjkmghmnnaaCrlf
import Derived.Test.YtjoagjkmghmnnaaWMore
import Derived.Test.YtjoagjkmghmnnaaProg
import Derived.WalkKit
import Derived.Lib.OthersKept
import Derived.Laws.Cover4
import Derived.Laws.RangeString
namespace Go.Proofs.Ytjoagjkmghmnnaa.TxRet
open Go.RowKit Go.Proofs.YtjoagjkmghmnnaaW.PrintWords Go.Proofs.YtjoagjkmghmnnaaW.PrintLast Go.Proofs.Ytjoagjkmghmnnaa.Common Go.Proofs.Ytjoagjkmghmnnaa.Crlf
set_option linter.unusedVariables false
set_option linter.unusedSimpArgs false

theorem ofBs_len (l : List UInt8) : (ofBs l).length = l.length := by simp [ofBs]
theorem ofBs_app (a b : List UInt8) : ofBs (a ++ b) = ofBs a ++ ofBs b := by simp [ofBs]
theorem encode_ascii : ∀ c : Fin 128, Utf8.encode (c.val : Int) = ⟨#[UInt8.ofNat c.val]⟩ := by decide +kernel
theorem runesBytes_ascii (l : List UInt8) (h : ∀ c ∈ l, c.toNat < 128) : runesBytes (ofBs l) = ofL l := by
  have key : ∀ (l : List UInt8) (acc : ByteArray), (∀ c ∈ l, c.toNat < 128) → (ofBs l).foldl (fun r n => r ++ Utf8.encode n) acc = acc ++ ofL l := by
    intro l
    induction l with
    | nil => intro acc _; apply WideShapes.bytes_inj; simp [ofBs, ofL]
    | cons c t ih =>
      intro acc h
      have hc : c.toNat < 128 := h c (by simp)
      have e : ofBs (c :: t) = (c.toNat : Int) :: ofBs t := rfl
      rw [e, List.foldl_cons, ih _ (fun x hx => h x (by simp [hx]))]
      have e2 := encode_ascii ⟨c.toNat, hc⟩
      simp only at e2
      rw [e2]
      apply WideShapes.bytes_inj
      simp [ofL]
  have := key l ByteArray.empty h
  unfold runesBytes
  rw [this]
  apply WideShapes.bytes_inj
  simp [ofL]
theorem own_runes {P : Program} {w : World} {base n : Nat} {e' src dst e : TypeId} {v : Value} {xs : List Int} (hs : P.underlying src = some (.slice e)) (he : P.underlying e = some (.int .i32)) (hd : P.underlying dst = some .string)
    (h : w.ownsRow base e' 1 v n (nums .i32 xs)) : (convert src dst v).run P w = .ok (.string (runesBytes xs)) w := by
  have hl : xs.length = n := by have := h.1; simp [nums] at this; exact this
  rcases h.2 with ⟨rfl, rfl⟩ | ⟨g, cap, cur, rfl, _⟩
  · obtain rfl : xs = [] := List.eq_nil_of_length_eq_zero hl
    exact run_convert_runes_nil w src dst e 0 0 hs he hd
  · have := run_convert_runes w src dst e ⟨g, 0, none⟩ n cap xs (by omega) hs he hd (fun i hi => h.cells (g := g) rfl i (.int .i32 (xs.getD i 0)) (by simp [nums, List.getElem?_eq_getElem hi, List.getD_eq_getElem?_getD]))
    rw [this, List.take_of_length_le (by omega)]
theorem own_ne_iter {w : World} {base n : Nat} {e : TypeId} {v : Value} {xs : List Value} (h : w.ownsRow base e 1 v n xs) {k : Nat} {s : ByteArray} {pos : Nat} (hk : w.heap[k]? = some (.stringIter s pos)) : some k ≠ v.ownBlock := by
  rcases h.2 with ⟨rfl, _⟩ | ⟨g, cap, cur, rfl, _, hh, _⟩
  · simp [Value.ownBlock]
  · simp only [Value.ownBlock]
    intro e1
    have : k = g := by simpa using e1
    subst this
    rw [hk] at hh
    cases hh

def Off (a b : Value) : Prop := a.ownBlock = none ∨ a.ownBlock ≠ b.ownBlock
theorem Off.symm {a b : Value} (h : Off a b) : Off b a := by
  unfold Off at *
  rcases h with h | h
  · cases hb : b.ownBlock with
    | none => exact .inl rfl
    | some k => exact .inr (by rw [h]; simp)
  · exact .inr (fun e => h e.symm)
/-- The state of the loop in memory. -/
structure St (w : World) (s : ByteArray) (vo vl : Value) (o l : List UInt8) (pos : Nat) (wr : World) : Prop where
  ro : wr.ownsRow w.heap.size 21 1 vo (ofBs o).length (nums .i32 (ofBs o))
  rl : wr.ownsRow w.heap.size 21 1 vl (ofBs l).length (nums .i32 (ofBs l))
  ap : Off vo vl
  it : wr.heap[w.heap.size]? = some (.stringIter s pos)
  bl : Below w.heap.size w wr
theorem iter_grown (wr : World) (k : Nat) (s : ByteArray) (pos : Nat) : wr.grownBy (wr.iterAt k s pos) (some k) :=
  ⟨rfl, rfl, rfl, by rw [Lib.iterAt_size]; exact Nat.le_refl _, fun i _ hi => Lib.iterAt_other wr k i s pos (fun e => hi (by rw [e]))⟩
theorem St.next {w : World} {s : ByteArray} {vo vl : Value} {o l : List UInt8} {pos : Nat} {wr : World} (h : St w s vo vl o l pos wr) (pos' : Nat) : St w s vo vl o l pos' (wr.iterAt w.heap.size s pos') :=
  ⟨h.ro.kept (iter_grown _ _ _ _) (Or.inr (fun e => own_ne_iter h.ro h.it e.symm)), h.rl.kept (iter_grown _ _ _ _) (Or.inr (fun e => own_ne_iter h.rl h.it e.symm)), h.ap, Lib.iterAt_heap _ _ _ _ _ h.it, Lib.below_iterAt h.bl (Nat.le_refl _) s pos'⟩
theorem it_grown {wr w1 : World} {k : Nat} {s : ByteArray} {pos : Nat} {row : Option Nat} (hk : wr.heap[k]? = some (.stringIter s pos)) (hg : wr.grownBy w1 row) (hne : some k ≠ row) : w1.heap[k]? = some (.stringIter s pos) :=
  (hg.block k (Array.getElem?_eq_some_iff.1 hk).1 hne).trans hk
theorem St.line {w : World} {s : ByteArray} {vo vl : Value} {o l : List UInt8} {pos : Nat} {wr w1 : World} {v1 : Value} {l1 : List UInt8} (h : St w s vo vl o l pos wr)
    (hown : w1.ownsRow w.heap.size 21 1 v1 (ofBs l1).length (nums .i32 (ofBs l1))) (hb : Below w.heap.size w w1) (hg : wr.grownBy w1 vl.ownBlock) (hat : v1.ownBlock = vl.ownBlock ∨ ∃ b, v1.ownBlock = some b ∧ wr.heap.size ≤ b) : St w s vo v1 o l1 pos w1 := by
  refine ⟨own_other h.ro hg h.ap, hown, ?_, it_grown h.it hg (own_ne_iter h.rl h.it), hb⟩
  rcases hat with e | ⟨b, e, hle⟩
  · unfold Off; rw [e]; exact h.ap
  · unfold Off
    cases hk : vo.ownBlock with
    | none => exact .inl rfl
    | some k =>
      have := own_lt h.ro k hk
      refine .inr ?_
      rw [e]
      intro e2
      simp at e2
      omega
theorem St.lineTo {w : World} {s : ByteArray} {vo vl : Value} {o l : List UInt8} {pos : Nat} {wr w1 : World} {v1 : Value} {l1 : List UInt8} (h : St w s vo vl o l pos wr)
    (hown : w1.ownsRow w.heap.size 21 1 v1 (ofBs l1).length (nums .i32 (ofBs l1))) (hb : Below w.heap.size w w1) (hg : wr.grownBy w1 vl.ownBlock) (hat : v1.ownBlock = vl.ownBlock) : St w s vo v1 o l1 pos w1 := h.line hown hb hg (.inl hat)
theorem St.fresh {w : World} {s : ByteArray} {vo vl : Value} {o l : List UInt8} {pos : Nat} {wr w1 : World} {v1 : Value} {o1 : List UInt8} (h : St w s vo vl o l pos wr)
    (hown : w1.ownsRow w.heap.size 21 1 v1 (ofBs o1).length (nums .i32 (ofBs o1))) (hb : Below w.heap.size w w1) (hg : wr.grownBy w1 vo.ownBlock) : St w s v1 (.slice none 0 0) o1 [] pos w1 :=
  ⟨hown, own_nil _ _ _ _, by unfold Off; cases hk : v1.ownBlock <;> simp [Value.ownBlock], it_grown h.it hg (own_ne_iter h.ro h.it), hb⟩
theorem grown_then {w w1 w2 : World} {v v1 : Value} (h1 : w.grownBy w1 v.ownBlock) (h2 : w1.grownBy w2 v1.ownBlock) (hat : v1.ownBlock = v.ownBlock ∨ ∃ b, v1.ownBlock = some b ∧ w.heap.size ≤ b) : w.grownBy w2 v.ownBlock := by
  rcases hat with e | ⟨b, e, hle⟩
  · rw [e] at h2; exact h1.trans h2
  · refine ⟨h2.os.trans h1.os, h2.tape.trans h1.tape, h2.output.trans h1.output, Nat.le_trans h1.size h2.size, fun k hk hne => ?_⟩
    rw [h2.block k (Nat.lt_of_lt_of_le hk h1.size) (by rw [e]; intro e2; simp at e2; omega), h1.block k hk hne]
theorem iterPos_of {w : World} {k : Nat} {s : ByteArray} {p : Nat} (h : w.heap[k]? = some (.stringIter s p)) : w.iterPos k = p := by simp only [World.iterPos, h]
theorem ofBs_set (l : List UInt8) (j : Nat) (c : UInt8) : (ofBs l).set j (c.toNat : Int) = ofBs (l.set j c) := by simp [ofBs, List.map_set]
end Go.Proofs.Ytjoagjkmghmnnaa.TxRet
