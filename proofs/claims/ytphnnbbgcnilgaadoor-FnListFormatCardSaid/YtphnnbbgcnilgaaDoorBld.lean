/-
  Proved: a strings.Builder's state carried from call to call: WriteRune of ASCII characters, WriteString, Len, String. Conditions: sizes as told.
-/
import Derived.Shelf.Strings.BuilderK
import Derived.Shelf.Strings.BuilderRune
import Derived.Test.YtphnnbbgcnilgaaDoorShelf
import Derived.Test.YtphnnbbgcnilgaaDoorCommon
import Derived.Lib.OthersKept
import Derived.Lib.RuneBytes
import Derived.Lib.UnsafeStr
import Derived.Below
namespace Go.Proofs
open Go.Shelf
def Tryd.lays166_ren : Go.Shelf.Ren := ⟨fun | 166 => 57 | 240 => 49 | 276 => 72 | n => n, fun | 0 => 0 | 3 => 3 | 4 => 4 | 5 => 5 | 9 => 9 | 20 => 20 | 37 => 59 | 70 => 68 | 72 => 70 | 75 => 83 | 80 => 55 | 164 => 101 | n => n, fun | n => n⟩
theorem Tryd.lays166 : Go.Proofs.Lays.n166 Tryd.prog Tryd.lays166_ren := {
  mixed := by kernel_rfl
  f166 := Tryd.func57.trans (congrArg some (by kernel_rfl))
  f240 := Tryd.func49.trans (congrArg some (by kernel_rfl))
  f276 := Tryd.func72.trans (congrArg some (by kernel_rfl))
  t0 := Tryd.underlying0
  a0 := Tryd.isAgg0
  z0 := Tryd.sizeOf0
  v0 := Tryd.zeroValue0
  t3 := Tryd.underlying3
  a3 := Tryd.isAgg3
  z3 := Tryd.sizeOf3
  v3 := Tryd.zeroValue3
  t4 := Tryd.underlying4
  a4 := Tryd.isAgg4
  z4 := Tryd.sizeOf4
  v4 := Tryd.zeroValue4
  t9 := Tryd.underlying9
  a9 := Tryd.isAgg9
  z9 := Tryd.sizeOf9
  v9 := Tryd.zeroValue9
  t20 := Tryd.underlying20
  a20 := Tryd.isAgg20
  z20 := Tryd.sizeOf20
  v20 := Tryd.zeroValue20
  t37 := Tryd.underlying59
  a37 := Tryd.isAgg59
  z37 := Tryd.sizeOf59
  v37 := Tryd.zeroValue59
  t70 := Tryd.underlying68
  a70 := Tryd.isAgg68
  z70 := Tryd.sizeOf68
  v70 := Tryd.zeroValue68
  t72 := Tryd.underlying70
  a72 := Tryd.isAgg70
  z72 := Tryd.sizeOf70
  v72 := Tryd.zeroValue70
  t75 := Tryd.underlying83
  a75 := Tryd.isAgg83
  z75 := Tryd.sizeOf83
  v75 := Tryd.zeroValue83
  t164 := Tryd.underlying101
  a164 := Tryd.isAgg101
  z164 := Tryd.sizeOf101
  v164 := Tryd.zeroValue101 }
theorem Tryd.Builder_Extra_166 : Builder.Extra Tryd.prog Tryd.lays166_ren where
  sizeBuilder := by kernel_rfl
  liesBuilder := by kernel_rfl
  t5 := Tryd.underlying5
  a5 := Tryd.isAgg5
  z5 := Tryd.sizeOf5
  v5 := Tryd.zeroValue5
  infoByte := by kernel_rfl
  cellsByte := by kernel_rfl
  sizeByte := by kernel_rfl
  neB5 := by decide
open Go.RowKit in
theorem Tryd.Builder_WriteString_k (B b : Nat) (bs : List Value) (s : ByteArray) (w : World) (h : Lib.IsBuilderF 70 5 B b bs w) (hlen : bs.length + s.size ≤ 140737488355328) (hBw : B ≤ w.heap.size) :
    Calls Tryd.prog 57 #[.pointer (some ⟨b, 0, none⟩), .string s] w fun e w' => e = .returned (.tuple #[.int .i64 s.size, .nilIface]) ∧ (Lib.BuilderAtF 70 5 B b (.pointer (some ⟨b, 0, none⟩)) (bs ++ Lib.strCells s) w' ∧ Below B w w' ∧ Lib.OthersKept 5 (some b) w w') := Any.Builder_WriteString_k Tryd.lays166 Tryd.Builder_Extra_166 B b bs s w h hlen hBw
def Tryd.lays168_ren : Go.Shelf.Ren := ⟨fun | 168 => 51 | 240 => 49 | 242 => 74 | 276 => 72 | 278 => 92 | n => n, fun | 0 => 0 | 3 => 3 | 4 => 4 | 5 => 5 | 9 => 9 | 20 => 20 | 21 => 21 | 37 => 59 | 46 => 97 | 51 => 114 | 70 => 68 | 72 => 70 | 75 => 83 | 80 => 55 | 164 => 101 | n => n, fun | n => n⟩
theorem Tryd.lays168 : Go.Proofs.Lays.n168 Tryd.prog Tryd.lays168_ren := {
  mixed := by kernel_rfl
  f168 := Tryd.func51.trans (congrArg some (by kernel_rfl))
  f240 := Tryd.func49.trans (congrArg some (by kernel_rfl))
  f242 := Tryd.func74.trans (congrArg some (by kernel_rfl))
  f276 := Tryd.func72.trans (congrArg some (by kernel_rfl))
  f278 := Tryd.func92.trans (congrArg some (by kernel_rfl))
  t0 := Tryd.underlying0
  a0 := Tryd.isAgg0
  z0 := Tryd.sizeOf0
  v0 := Tryd.zeroValue0
  t3 := Tryd.underlying3
  a3 := Tryd.isAgg3
  z3 := Tryd.sizeOf3
  v3 := Tryd.zeroValue3
  t4 := Tryd.underlying4
  a4 := Tryd.isAgg4
  z4 := Tryd.sizeOf4
  v4 := Tryd.zeroValue4
  t5 := Tryd.underlying5
  a5 := Tryd.isAgg5
  z5 := Tryd.sizeOf5
  v5 := Tryd.zeroValue5
  t9 := Tryd.underlying9
  a9 := Tryd.isAgg9
  z9 := Tryd.sizeOf9
  v9 := Tryd.zeroValue9
  t20 := Tryd.underlying20
  a20 := Tryd.isAgg20
  z20 := Tryd.sizeOf20
  v20 := Tryd.zeroValue20
  t21 := Tryd.underlying21
  a21 := Tryd.isAgg21
  z21 := Tryd.sizeOf21
  v21 := Tryd.zeroValue21
  t37 := Tryd.underlying59
  a37 := Tryd.isAgg59
  z37 := Tryd.sizeOf59
  v37 := Tryd.zeroValue59
  t46 := Tryd.underlying97
  a46 := Tryd.isAgg97
  z46 := Tryd.sizeOf97
  v46 := Tryd.zeroValue97
  t51 := Tryd.underlying114
  a51 := Tryd.isAgg114
  z51 := Tryd.sizeOf114
  v51 := Tryd.zeroValue114
  t70 := Tryd.underlying68
  a70 := Tryd.isAgg68
  z70 := Tryd.sizeOf68
  v70 := Tryd.zeroValue68
  t72 := Tryd.underlying70
  a72 := Tryd.isAgg70
  z72 := Tryd.sizeOf70
  v72 := Tryd.zeroValue70
  t75 := Tryd.underlying83
  a75 := Tryd.isAgg83
  z75 := Tryd.sizeOf83
  v75 := Tryd.zeroValue83
  t164 := Tryd.underlying101
  a164 := Tryd.isAgg101
  z164 := Tryd.sizeOf101
  v164 := Tryd.zeroValue101 }
theorem Tryd.Builder_Extra_168 : Builder.Extra Tryd.prog Tryd.lays168_ren where
  sizeBuilder := by kernel_rfl
  liesBuilder := by kernel_rfl
  t5 := Tryd.underlying5
  a5 := Tryd.isAgg5
  z5 := Tryd.sizeOf5
  v5 := Tryd.zeroValue5
  infoByte := by kernel_rfl
  cellsByte := by kernel_rfl
  sizeByte := by kernel_rfl
  neB5 := by decide
open Go.RowKit in
theorem Tryd.Builder_WriteRune_k (B b : Nat) (bs : List Value) (r : Int) (hr0 : -2147483648 ≤ r) (hr1 : r ≤ 2147483647) (w : World) (h : Lib.IsBuilderF 70 5 B b bs w) (hlen : bs.length + 4 ≤ 140737488355328) (hBw : B ≤ w.heap.size) :
    Calls Tryd.prog 51 #[.pointer (some ⟨b, 0, none⟩), .int .i32 r] w fun e w' => e = .returned (.tuple #[.int .i64 (Lib.runeCells r).length, .nilIface]) ∧ (Lib.BuilderAtF 70 5 B b (.pointer (some ⟨b, 0, none⟩)) (bs ++ Lib.runeCells r) w' ∧ Below B w w' ∧ Lib.OthersKept 5 (some b) w w') := Any.Builder_WriteRune_k Tryd.lays168 Tryd.Builder_Extra_168 B b bs r hr0 hr1 w h hlen hBw
end Go.Proofs

namespace Go.Proofs.YtphnnbbgcnilgaaDoor.Bld
open Go.RowKit Go.Proofs.YtphnnbbgcnilgaaDoorW.PrintWords Go.Proofs.YtphnnbbgcnilgaaDoor.Common
set_option linter.unusedVariables false

/-- The builder in block B holds acc (at most m bytes); below B all is as in W0. -/
structure BS (B : Nat) (W0 : World) (acc : List UInt8) (m : Nat) (W : World) : Prop where
  isb : Lib.IsBuilderF 70 5 B B (Lib.byteCells acc) W
  bel : Below B W0 W
  len : acc.length ≤ m
  lt : B < W0.heap.size
theorem BS.here {B : Nat} {W0 W : World} {acc : List UInt8} {m : Nat} (h : BS B W0 acc m W) : B ≤ W.heap.size := Nat.le_trans (Nat.le_of_lt h.lt) h.bel.size
theorem BS.mono {B : Nat} {W0 W : World} {acc acc' : List UInt8} {m m' : Nat} (h : BS B W0 acc m W) (he : acc = acc') (hm : acc'.length ≤ m') : BS B W0 acc' m' W := by
  subst he; exact ⟨h.isb, h.bel, hm, h.lt⟩
theorem builder_below {B b : Nat} {bs : List Value} {W W' : World} (h : Lib.IsBuilderF 70 5 B b bs W) (hb : Below W.heap.size W W') : Lib.IsBuilderF 70 5 B b bs W' := by
  have at_ : ∀ p : Value, Lib.BuilderAtF 70 5 B b p bs W → Lib.BuilderAtF 70 5 B b p bs W' := fun p h => by
    have hlt := h.lt
    obtain ⟨hB, v, hv, hown, hne⟩ := h
    exact ⟨hB, v, (hb.block b hlt).trans hv, hown.kept (row := none) ⟨hb.os, hb.tape, hb.output, hb.size, fun k hk _ => hb.block k hk⟩ (Classical.em _), hne⟩
  exact h.elim (fun x => .inl (at_ _ x)) (fun x => .inr (at_ _ x))
/-- a call that makes memory alone -/
theorem BS.below {B : Nat} {W0 W W' : World} {acc : List UInt8} {m : Nat} (h : BS B W0 acc m W) (hb : Below W.heap.size W W') : BS B W0 acc m W' :=
  ⟨builder_below h.isb hb, h.bel.trans (hb.mono h.here), h.len, h.lt⟩
theorem BS.cell {B : Nat} {W0 W : World} {acc : List UInt8} {m : Nat} (h : BS B W0 acc m W) {a : Addr} {v : Value} (ha : a.block < B) (hc : W0.cell? a = some v) : W.cell? a = some v := (h.bel.cell ha).trans hc
theorem wrRune (c : UInt8) (hc : c.toNat < 128) (r : Int) (hr : r = (c.toNat : Int)) {B : Nat} {W0 W : World} {acc : List UInt8} {m : Nat} (h : BS B W0 acc m W) (hm : m ≤ 100000000000000) :
    Calls Tryd.prog 51 #[.pointer (some ⟨B, 0, none⟩), .int .i32 r] W fun e w' => ∃ v, e = .returned v ∧ BS B W0 (acc ++ [c]) (m + 1) w' := by
  refine (Tryd.Builder_WriteRune_k B B _ r (by omega) (by omega) W h.isb (by rw [Lib.byteCells_length]; have := h.len; omega) h.here).mono ?_
  rintro e w' ⟨rfl, h1, h2, _⟩
  refine ⟨_, rfl, ?_, h.bel.trans h2, by rw [List.length_append]; have := h.len; simp; omega, h.lt⟩
  have e2 : Lib.runeCells r = Lib.byteCells [c] := by
    rw [Lib.runeCells, Lib.encodeRuneZ_one (by omega) (by omega), hr]
    rfl
  rw [Lib.byteCells_append, ← e2]
  exact Or.inr h1
theorem wrString (s : ByteArray) {B : Nat} {W0 W : World} {acc : List UInt8} {m : Nat} (h : BS B W0 acc m W) (hm : m + s.size ≤ 100000000000000) :
    Calls Tryd.prog 57 #[.pointer (some ⟨B, 0, none⟩), .string s] W fun e w' => ∃ v, e = .returned v ∧ BS B W0 (acc ++ s.data.toList) (m + s.size) w' := by
  refine (Tryd.Builder_WriteString_k B B _ s W h.isb (by rw [Lib.byteCells_length]; have := h.len; omega) h.here).mono ?_
  rintro e w' ⟨rfl, h1, h2, _⟩
  refine ⟨_, rfl, ?_, h.bel.trans h2, by rw [List.length_append, size_l]; have := h.len; omega, h.lt⟩
  rw [Lib.byteCells_append, ← Lib.strCells_eq]
  exact Or.inr h1
theorem bstring {B : Nat} {W0 W : World} {acc : List UInt8} {m : Nat} (h : BS B W0 acc m W) :
    Calls Tryd.prog 58 #[.pointer (some ⟨B, 0, none⟩)] W fun e w' => e = .returned (.string (ofL acc)) ∧ Below B W0 w' := by
  refine (Tryd.Builder_String_any_k B B acc W h.isb h.here).mono ?_
  rintro e w' ⟨rfl, _, h2, _⟩
  exact ⟨rfl, h.bel.trans h2⟩
end Go.Proofs.YtphnnbbgcnilgaaDoor.Bld
