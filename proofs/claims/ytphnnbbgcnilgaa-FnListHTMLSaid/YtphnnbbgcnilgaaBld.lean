/-
  Proved: a strings.Builder's state carried from call to call: WriteRune of ASCII characters, WriteString, Len, String. Conditions: sizes as told.
-/
import Derived.Shelf.Strings.BuilderK
import Derived.Shelf.Strings.BuilderRune
import Derived.Test.YtphnnbbgcnilgaaShelf
import Derived.Test.YtphnnbbgcnilgaaCommon
import Derived.Lib.OthersKept
import Derived.Lib.RuneBytes
import Derived.Lib.UnsafeStr
import Derived.Below
namespace Go.Proofs
open Go.Shelf
def Try.lays166_ren : Go.Shelf.Ren := ⟨fun | 166 => 62 | 240 => 60 | 276 => 74 | n => n, fun | 0 => 0 | 3 => 3 | 4 => 4 | 5 => 5 | 9 => 9 | 20 => 20 | 37 => 30 | 70 => 83 | 72 => 85 | 75 => 108 | 80 => 55 | 164 => 120 | n => n, fun | n => n⟩
theorem Try.lays166 : Go.Proofs.Lays.n166 Try.prog Try.lays166_ren := {
  mixed := by kernel_rfl
  f166 := Try.func62.trans (congrArg some (by kernel_rfl))
  f240 := Try.func60.trans (congrArg some (by kernel_rfl))
  f276 := Try.func74.trans (congrArg some (by kernel_rfl))
  t0 := Try.underlying0
  a0 := Try.isAgg0
  z0 := Try.sizeOf0
  v0 := Try.zeroValue0
  t3 := Try.underlying3
  a3 := Try.isAgg3
  z3 := Try.sizeOf3
  v3 := Try.zeroValue3
  t4 := Try.underlying4
  a4 := Try.isAgg4
  z4 := Try.sizeOf4
  v4 := Try.zeroValue4
  t9 := Try.underlying9
  a9 := Try.isAgg9
  z9 := Try.sizeOf9
  v9 := Try.zeroValue9
  t20 := Try.underlying20
  a20 := Try.isAgg20
  z20 := Try.sizeOf20
  v20 := Try.zeroValue20
  t37 := Try.underlying30
  a37 := Try.isAgg30
  z37 := Try.sizeOf30
  v37 := Try.zeroValue30
  t70 := Try.underlying83
  a70 := Try.isAgg83
  z70 := Try.sizeOf83
  v70 := Try.zeroValue83
  t72 := Try.underlying85
  a72 := Try.isAgg85
  z72 := Try.sizeOf85
  v72 := Try.zeroValue85
  t75 := Try.underlying108
  a75 := Try.isAgg108
  z75 := Try.sizeOf108
  v75 := Try.zeroValue108
  t164 := Try.underlying120
  a164 := Try.isAgg120
  z164 := Try.sizeOf120
  v164 := Try.zeroValue120 }
theorem Try.Builder_Extra_166 : Builder.Extra Try.prog Try.lays166_ren where
  sizeBuilder := by kernel_rfl
  liesBuilder := by kernel_rfl
  t5 := Try.underlying5
  a5 := Try.isAgg5
  z5 := Try.sizeOf5
  v5 := Try.zeroValue5
  infoByte := by kernel_rfl
  cellsByte := by kernel_rfl
  sizeByte := by kernel_rfl
  neB5 := by decide
open Go.RowKit in
theorem Try.Builder_WriteString_k (B b : Nat) (bs : List Value) (s : ByteArray) (w : World) (h : Lib.IsBuilderF 85 5 B b bs w) (hlen : bs.length + s.size ≤ 140737488355328) (hBw : B ≤ w.heap.size) :
    Calls Try.prog 62 #[.pointer (some ⟨b, 0, none⟩), .string s] w fun e w' => e = .returned (.tuple #[.int .i64 s.size, .nilIface]) ∧ (Lib.BuilderAtF 85 5 B b (.pointer (some ⟨b, 0, none⟩)) (bs ++ Lib.strCells s) w' ∧ Below B w w' ∧ Lib.OthersKept 5 (some b) w w') := Any.Builder_WriteString_k Try.lays166 Try.Builder_Extra_166 B b bs s w h hlen hBw
def Try.lays168_ren : Go.Shelf.Ren := ⟨fun | 168 => 64 | 240 => 60 | 242 => 76 | 276 => 74 | 278 => 86 | n => n, fun | 0 => 0 | 3 => 3 | 4 => 4 | 5 => 5 | 9 => 9 | 20 => 20 | 21 => 21 | 37 => 30 | 46 => 116 | 51 => 130 | 70 => 83 | 72 => 85 | 75 => 108 | 80 => 55 | 164 => 120 | n => n, fun | n => n⟩
theorem Try.lays168 : Go.Proofs.Lays.n168 Try.prog Try.lays168_ren := {
  mixed := by kernel_rfl
  f168 := Try.func64.trans (congrArg some (by kernel_rfl))
  f240 := Try.func60.trans (congrArg some (by kernel_rfl))
  f242 := Try.func76.trans (congrArg some (by kernel_rfl))
  f276 := Try.func74.trans (congrArg some (by kernel_rfl))
  f278 := Try.func86.trans (congrArg some (by kernel_rfl))
  t0 := Try.underlying0
  a0 := Try.isAgg0
  z0 := Try.sizeOf0
  v0 := Try.zeroValue0
  t3 := Try.underlying3
  a3 := Try.isAgg3
  z3 := Try.sizeOf3
  v3 := Try.zeroValue3
  t4 := Try.underlying4
  a4 := Try.isAgg4
  z4 := Try.sizeOf4
  v4 := Try.zeroValue4
  t5 := Try.underlying5
  a5 := Try.isAgg5
  z5 := Try.sizeOf5
  v5 := Try.zeroValue5
  t9 := Try.underlying9
  a9 := Try.isAgg9
  z9 := Try.sizeOf9
  v9 := Try.zeroValue9
  t20 := Try.underlying20
  a20 := Try.isAgg20
  z20 := Try.sizeOf20
  v20 := Try.zeroValue20
  t21 := Try.underlying21
  a21 := Try.isAgg21
  z21 := Try.sizeOf21
  v21 := Try.zeroValue21
  t37 := Try.underlying30
  a37 := Try.isAgg30
  z37 := Try.sizeOf30
  v37 := Try.zeroValue30
  t46 := Try.underlying116
  a46 := Try.isAgg116
  z46 := Try.sizeOf116
  v46 := Try.zeroValue116
  t51 := Try.underlying130
  a51 := Try.isAgg130
  z51 := Try.sizeOf130
  v51 := Try.zeroValue130
  t70 := Try.underlying83
  a70 := Try.isAgg83
  z70 := Try.sizeOf83
  v70 := Try.zeroValue83
  t72 := Try.underlying85
  a72 := Try.isAgg85
  z72 := Try.sizeOf85
  v72 := Try.zeroValue85
  t75 := Try.underlying108
  a75 := Try.isAgg108
  z75 := Try.sizeOf108
  v75 := Try.zeroValue108
  t164 := Try.underlying120
  a164 := Try.isAgg120
  z164 := Try.sizeOf120
  v164 := Try.zeroValue120 }
theorem Try.Builder_Extra_168 : Builder.Extra Try.prog Try.lays168_ren where
  sizeBuilder := by kernel_rfl
  liesBuilder := by kernel_rfl
  t5 := Try.underlying5
  a5 := Try.isAgg5
  z5 := Try.sizeOf5
  v5 := Try.zeroValue5
  infoByte := by kernel_rfl
  cellsByte := by kernel_rfl
  sizeByte := by kernel_rfl
  neB5 := by decide
open Go.RowKit in
theorem Try.Builder_WriteRune_k (B b : Nat) (bs : List Value) (r : Int) (hr0 : -2147483648 ≤ r) (hr1 : r ≤ 2147483647) (w : World) (h : Lib.IsBuilderF 85 5 B b bs w) (hlen : bs.length + 4 ≤ 140737488355328) (hBw : B ≤ w.heap.size) :
    Calls Try.prog 64 #[.pointer (some ⟨b, 0, none⟩), .int .i32 r] w fun e w' => e = .returned (.tuple #[.int .i64 (Lib.runeCells r).length, .nilIface]) ∧ (Lib.BuilderAtF 85 5 B b (.pointer (some ⟨b, 0, none⟩)) (bs ++ Lib.runeCells r) w' ∧ Below B w w' ∧ Lib.OthersKept 5 (some b) w w') := Any.Builder_WriteRune_k Try.lays168 Try.Builder_Extra_168 B b bs r hr0 hr1 w h hlen hBw
end Go.Proofs

namespace Go.Proofs.Ytphnnbbgcnilgaa.Bld
open Go.RowKit Go.Proofs.YtphnnbbgcnilgaaW.PrintWords Go.Proofs.Ytphnnbbgcnilgaa.Common
set_option linter.unusedVariables false

/-- The builder in block B holds acc (at most m bytes); below B all is as in W0. -/
structure BS (B : Nat) (W0 : World) (acc : List UInt8) (m : Nat) (W : World) : Prop where
  isb : Lib.IsBuilderF 85 5 B B (Lib.byteCells acc) W
  bel : Below B W0 W
  len : acc.length ≤ m
  lt : B < W0.heap.size
theorem BS.here {B : Nat} {W0 W : World} {acc : List UInt8} {m : Nat} (h : BS B W0 acc m W) : B ≤ W.heap.size := Nat.le_trans (Nat.le_of_lt h.lt) h.bel.size
theorem BS.mono {B : Nat} {W0 W : World} {acc acc' : List UInt8} {m m' : Nat} (h : BS B W0 acc m W) (he : acc = acc') (hm : acc'.length ≤ m') : BS B W0 acc' m' W := by
  subst he; exact ⟨h.isb, h.bel, hm, h.lt⟩
theorem builder_below {B b : Nat} {bs : List Value} {W W' : World} (h : Lib.IsBuilderF 85 5 B b bs W) (hb : Below W.heap.size W W') : Lib.IsBuilderF 85 5 B b bs W' := by
  have at_ : ∀ p : Value, Lib.BuilderAtF 85 5 B b p bs W → Lib.BuilderAtF 85 5 B b p bs W' := fun p h => by
    have hlt := h.lt
    obtain ⟨hB, v, hv, hown, hne⟩ := h
    exact ⟨hB, v, (hb.block b hlt).trans hv, hown.kept (row := none) ⟨hb.os, hb.tape, hb.output, hb.size, fun k hk _ => hb.block k hk⟩ (Classical.em _), hne⟩
  exact h.elim (fun x => .inl (at_ _ x)) (fun x => .inr (at_ _ x))
/-- a call that makes memory alone -/
theorem BS.below {B : Nat} {W0 W W' : World} {acc : List UInt8} {m : Nat} (h : BS B W0 acc m W) (hb : Below W.heap.size W W') : BS B W0 acc m W' :=
  ⟨builder_below h.isb hb, h.bel.trans (hb.mono h.here), h.len, h.lt⟩
theorem BS.cell {B : Nat} {W0 W : World} {acc : List UInt8} {m : Nat} (h : BS B W0 acc m W) {a : Addr} {v : Value} (ha : a.block < B) (hc : W0.cell? a = some v) : W.cell? a = some v := (h.bel.cell ha).trans hc
theorem wrRune (c : UInt8) (hc : c.toNat < 128) (r : Int) (hr : r = (c.toNat : Int)) {B : Nat} {W0 W : World} {acc : List UInt8} {m : Nat} (h : BS B W0 acc m W) (hm : m ≤ 100000000000000) :
    Calls Try.prog 64 #[.pointer (some ⟨B, 0, none⟩), .int .i32 r] W fun e w' => ∃ v, e = .returned v ∧ BS B W0 (acc ++ [c]) (m + 1) w' := by
  refine (Try.Builder_WriteRune_k B B _ r (by omega) (by omega) W h.isb (by rw [Lib.byteCells_length]; have := h.len; omega) h.here).mono ?_
  rintro e w' ⟨rfl, h1, h2, _⟩
  refine ⟨_, rfl, ?_, h.bel.trans h2, by rw [List.length_append]; have := h.len; simp; omega, h.lt⟩
  have e2 : Lib.runeCells r = Lib.byteCells [c] := by
    rw [Lib.runeCells, Lib.encodeRuneZ_one (by omega) (by omega), hr]
    rfl
  rw [Lib.byteCells_append, ← e2]
  exact Or.inr h1
theorem wrString (s : ByteArray) {B : Nat} {W0 W : World} {acc : List UInt8} {m : Nat} (h : BS B W0 acc m W) (hm : m + s.size ≤ 100000000000000) :
    Calls Try.prog 62 #[.pointer (some ⟨B, 0, none⟩), .string s] W fun e w' => ∃ v, e = .returned v ∧ BS B W0 (acc ++ s.data.toList) (m + s.size) w' := by
  refine (Try.Builder_WriteString_k B B _ s W h.isb (by rw [Lib.byteCells_length]; have := h.len; omega) h.here).mono ?_
  rintro e w' ⟨rfl, h1, h2, _⟩
  refine ⟨_, rfl, ?_, h.bel.trans h2, by rw [List.length_append, size_l]; have := h.len; omega, h.lt⟩
  rw [Lib.byteCells_append, ← Lib.strCells_eq]
  exact Or.inr h1
theorem bstring {B : Nat} {W0 W : World} {acc : List UInt8} {m : Nat} (h : BS B W0 acc m W) :
    Calls Try.prog 67 #[.pointer (some ⟨B, 0, none⟩)] W fun e w' => e = .returned (.string (ofL acc)) ∧ Below B W0 w' := by
  refine (Try.Builder_String_any_k B B acc W h.isb h.here).mono ?_
  rintro e w' ⟨rfl, _, h2, _⟩
  exact ⟨rfl, h.bel.trans h2⟩
end Go.Proofs.Ytphnnbbgcnilgaa.Bld
