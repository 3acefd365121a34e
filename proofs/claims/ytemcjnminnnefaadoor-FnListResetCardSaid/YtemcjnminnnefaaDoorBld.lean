/-
  Proved: a strings.Builder's state carried from call to call: WriteRune of ASCII characters, WriteString, Len, String. Conditions: sizes as told.
-/
import Derived.Test.YtemcjnminnnefaaDoorShWrite
import Derived.Test.YtemcjnminnnefaaDoorCommon
import Derived.Lib.OthersKept
import Derived.Lib.RuneBytes
import Derived.Lib.UnsafeStr
import Derived.Below
namespace Go.Proofs.YtemcjnminnnefaaDoor.Bld
open Go.RowKit Go.Proofs.YtemcjnminnnefaaDoorW.PrintWords Go.Proofs.YtemcjnminnnefaaDoor.Common
set_option linter.unusedVariables false

/-- The builder in block B holds acc (at most m bytes); below B all is as in W0. -/
structure BS (B : Nat) (W0 : World) (acc : List UInt8) (m : Nat) (W : World) : Prop where
  isb : Lib.IsBuilderF 51 5 B B (Lib.byteCells acc) W
  bel : Below B W0 W
  len : acc.length ≤ m
  lt : B < W0.heap.size
theorem BS.here {B : Nat} {W0 W : World} {acc : List UInt8} {m : Nat} (h : BS B W0 acc m W) : B ≤ W.heap.size := Nat.le_trans (Nat.le_of_lt h.lt) h.bel.size
theorem BS.mono {B : Nat} {W0 W : World} {acc acc' : List UInt8} {m m' : Nat} (h : BS B W0 acc m W) (he : acc = acc') (hm : acc'.length ≤ m') : BS B W0 acc' m' W := by
  subst he; exact ⟨h.isb, h.bel, hm, h.lt⟩
theorem builder_below {B b : Nat} {bs : List Value} {W W' : World} (h : Lib.IsBuilderF 51 5 B b bs W) (hb : Below W.heap.size W W') : Lib.IsBuilderF 51 5 B b bs W' := by
  have at_ : ∀ p : Value, Lib.BuilderAtF 51 5 B b p bs W → Lib.BuilderAtF 51 5 B b p bs W' := fun p h => by
    have hlt := h.lt
    obtain ⟨hB, v, hv, hown, hne⟩ := h
    exact ⟨hB, v, (hb.block b hlt).trans hv, hown.kept (row := none) ⟨hb.os, hb.tape, hb.output, hb.size, fun k hk _ => hb.block k hk⟩ (Classical.em _), hne⟩
  exact h.elim (fun x => .inl (at_ _ x)) (fun x => .inr (at_ _ x))
/-- a call that makes memory alone -/
theorem BS.below {B : Nat} {W0 W W' : World} {acc : List UInt8} {m : Nat} (h : BS B W0 acc m W) (hb : Below W.heap.size W W') : BS B W0 acc m W' :=
  ⟨builder_below h.isb hb, h.bel.trans (hb.mono h.here), h.len, h.lt⟩
theorem BS.cell {B : Nat} {W0 W : World} {acc : List UInt8} {m : Nat} (h : BS B W0 acc m W) {a : Addr} {v : Value} (ha : a.block < B) (hc : W0.cell? a = some v) : W.cell? a = some v := (h.bel.cell ha).trans hc
/-- 'var out strings.Builder' -/
theorem fresh (W : World) : BS W.heap.size (W.alloc (.cells #[.pointer none, .slice none 0 0] 51)) [] 0 (W.alloc (.cells #[.pointer none, .slice none 0 0] 51)) :=
  ⟨Lib.IsBuilderF.of (Lib.fresh_isBuilder 51 5 W), Below.refl _ _, Nat.le_refl _, by rw [World.size_alloc]; omega⟩
theorem wrRune (c : UInt8) (hc : c.toNat < 128) (r : Int) (hr : r = (c.toNat : Int)) {B : Nat} {W0 W : World} {acc : List UInt8} {m : Nat} (h : BS B W0 acc m W) (hm : m ≤ 100000000000000) :
    Calls Tryd.prog 34 #[.pointer (some ⟨B, 0, none⟩), .int .i32 r] W fun e w' => ∃ v, e = .returned v ∧ BS B W0 (acc ++ [c]) (m + 1) w' := by
  refine (Tryd.Builder_WriteRune_k B B _ r (by omega) (by omega) W h.isb (by rw [Lib.byteCells_length]; have := h.len; omega) h.here).mono ?_
  rintro e w' ⟨rfl, h1, h2, _⟩
  refine ⟨_, rfl, ?_, h.bel.trans h2, by rw [List.length_append]; have := h.len; simp; omega, h.lt⟩
  have e2 : Lib.runeCells r = Lib.byteCells [c] := by
    rw [Lib.runeCells, Lib.encodeRuneZ_one (by omega) (by omega), hr]
    rfl
  rw [Lib.byteCells_append, ← e2]
  exact Or.inr h1
theorem wrString (s : ByteArray) {B : Nat} {W0 W : World} {acc : List UInt8} {m : Nat} (h : BS B W0 acc m W) (hm : m + s.size ≤ 100000000000000) :
    Calls Tryd.prog 41 #[.pointer (some ⟨B, 0, none⟩), .string s] W fun e w' => ∃ v, e = .returned v ∧ BS B W0 (acc ++ s.data.toList) (m + s.size) w' := by
  refine (Tryd.Builder_WriteString_k B B _ s W h.isb (by rw [Lib.byteCells_length]; have := h.len; omega) h.here).mono ?_
  rintro e w' ⟨rfl, h1, h2, _⟩
  refine ⟨_, rfl, ?_, h.bel.trans h2, by rw [List.length_append, size_l]; have := h.len; omega, h.lt⟩
  rw [Lib.byteCells_append, ← Lib.strCells_eq]
  exact Or.inr h1
theorem blen {B : Nat} {W0 W : World} {acc : List UInt8} {m : Nat} (h : BS B W0 acc m W) :
    Calls Tryd.prog 48 #[.pointer (some ⟨B, 0, none⟩)] W fun e w' => e = .returned (.int .i64 acc.length) ∧ w' = W := by
  refine (Tryd.Builder_Len_f B B _ W h.isb).mono ?_
  rintro e w' ⟨rfl, rfl⟩
  rw [Lib.byteCells_length]
  exact ⟨rfl, rfl⟩
theorem bstring {B : Nat} {W0 W : World} {acc : List UInt8} {m : Nat} (h : BS B W0 acc m W) :
    Calls Tryd.prog 42 #[.pointer (some ⟨B, 0, none⟩)] W fun e w' => e = .returned (.string (ofL acc)) ∧ Below B W0 w' := by
  refine (Tryd.Builder_String_any_k B B acc W h.isb h.here).mono ?_
  rintro e w' ⟨rfl, _, h2, _⟩
  exact ⟨rfl, h.bel.trans h2⟩
end Go.Proofs.YtemcjnminnnefaaDoor.Bld
