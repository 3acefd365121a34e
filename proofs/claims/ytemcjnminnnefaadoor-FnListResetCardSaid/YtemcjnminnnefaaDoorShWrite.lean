/-
  Laid by hand after the kit's own layers: (*strings.Builder).WriteString and WriteRune at this translation. Conditions: each theorem's own.
-/
import Derived.Shelf.Strings.BuilderK
import Derived.Shelf.Strings.BuilderRune
import Derived.Test.YtemcjnminnnefaaDoorShelf
namespace Go.Proofs
open Go.Shelf
def Tryd.lays166_ren : Go.Shelf.Ren := ⟨fun | 166 => 41 | 240 => 32 | 276 => 49 | n => n, fun | 0 => 0 | 3 => 3 | 4 => 4 | 5 => 5 | 9 => 9 | 20 => 20 | 37 => 49 | 70 => 48 | 72 => 51 | 75 => 69 | 80 => 38 | 164 => 84 | n => n, fun | n => n⟩
theorem Tryd.lays166 : Go.Proofs.Lays.n166 Tryd.prog Tryd.lays166_ren := {
  mixed := by kernel_rfl
  f166 := Tryd.func41.trans (congrArg some (by kernel_rfl))
  f240 := Tryd.func32.trans (congrArg some (by kernel_rfl))
  f276 := Tryd.func49.trans (congrArg some (by kernel_rfl))
  t0 := Tryd.underlying0
  a0 := Tryd.isAgg0
  z0 := Tryd.sizeOf0
  v0 := Tryd.zeroValue0
  t3 := Tryd.underlying3
  a3 := Tryd.isAgg3
  z3 := Tryd.sizeOf3
  v3 := Tryd.zeroValue3
  t4 := Tryd.underlying4
  a4 := Tryd.isAgg4
  z4 := Tryd.sizeOf4
  v4 := Tryd.zeroValue4
  t9 := Tryd.underlying9
  a9 := Tryd.isAgg9
  z9 := Tryd.sizeOf9
  v9 := Tryd.zeroValue9
  t20 := Tryd.underlying20
  a20 := Tryd.isAgg20
  z20 := Tryd.sizeOf20
  v20 := Tryd.zeroValue20
  t37 := Tryd.underlying49
  a37 := Tryd.isAgg49
  z37 := Tryd.sizeOf49
  v37 := Tryd.zeroValue49
  t70 := Tryd.underlying48
  a70 := Tryd.isAgg48
  z70 := Tryd.sizeOf48
  v70 := Tryd.zeroValue48
  t72 := Tryd.underlying51
  a72 := Tryd.isAgg51
  z72 := Tryd.sizeOf51
  v72 := Tryd.zeroValue51
  t75 := Tryd.underlying69
  a75 := Tryd.isAgg69
  z75 := Tryd.sizeOf69
  v75 := Tryd.zeroValue69
  t164 := Tryd.underlying84
  a164 := Tryd.isAgg84
  z164 := Tryd.sizeOf84
  v164 := Tryd.zeroValue84 }
theorem Tryd.Builder_Extra_166 : Builder.Extra Tryd.prog Tryd.lays166_ren where
  sizeBuilder := by kernel_rfl
  liesBuilder := by kernel_rfl
  t5 := Tryd.underlying5
  a5 := Tryd.isAgg5
  z5 := Tryd.sizeOf5
  v5 := Tryd.zeroValue5
  infoByte := by kernel_rfl
  cellsByte := by kernel_rfl
  sizeByte := by kernel_rfl
  neB5 := by decide
open Go.RowKit in
theorem Tryd.Builder_WriteString_k (B b : Nat) (bs : List Value) (s : ByteArray) (w : World) (h : Lib.IsBuilderF 51 5 B b bs w) (hlen : bs.length + s.size ≤ 140737488355328) (hBw : B ≤ w.heap.size) :
    Calls Tryd.prog 41 #[.pointer (some ⟨b, 0, none⟩), .string s] w fun e w' => e = .returned (.tuple #[.int .i64 s.size, .nilIface]) ∧ (Lib.BuilderAtF 51 5 B b (.pointer (some ⟨b, 0, none⟩)) (bs ++ Lib.strCells s) w' ∧ Below B w w' ∧ Lib.OthersKept 5 (some b) w w') := Any.Builder_WriteString_k Tryd.lays166 Tryd.Builder_Extra_166 B b bs s w h hlen hBw
def Tryd.lays168_ren : Go.Shelf.Ren := ⟨fun | 168 => 34 | 240 => 32 | 242 => 51 | 276 => 49 | 278 => 65 | n => n, fun | 0 => 0 | 3 => 3 | 4 => 4 | 5 => 5 | 9 => 9 | 20 => 20 | 21 => 21 | 37 => 49 | 46 => 81 | 51 => 94 | 70 => 48 | 72 => 51 | 75 => 69 | 80 => 38 | 164 => 84 | n => n, fun | n => n⟩
theorem Tryd.lays168 : Go.Proofs.Lays.n168 Tryd.prog Tryd.lays168_ren := {
  mixed := by kernel_rfl
  f168 := Tryd.func34.trans (congrArg some (by kernel_rfl))
  f240 := Tryd.func32.trans (congrArg some (by kernel_rfl))
  f242 := Tryd.func51.trans (congrArg some (by kernel_rfl))
  f276 := Tryd.func49.trans (congrArg some (by kernel_rfl))
  f278 := Tryd.func65.trans (congrArg some (by kernel_rfl))
  t0 := Tryd.underlying0
  a0 := Tryd.isAgg0
  z0 := Tryd.sizeOf0
  v0 := Tryd.zeroValue0
  t3 := Tryd.underlying3
  a3 := Tryd.isAgg3
  z3 := Tryd.sizeOf3
  v3 := Tryd.zeroValue3
  t4 := Tryd.underlying4
  a4 := Tryd.isAgg4
  z4 := Tryd.sizeOf4
  v4 := Tryd.zeroValue4
  t5 := Tryd.underlying5
  a5 := Tryd.isAgg5
  z5 := Tryd.sizeOf5
  v5 := Tryd.zeroValue5
  t9 := Tryd.underlying9
  a9 := Tryd.isAgg9
  z9 := Tryd.sizeOf9
  v9 := Tryd.zeroValue9
  t20 := Tryd.underlying20
  a20 := Tryd.isAgg20
  z20 := Tryd.sizeOf20
  v20 := Tryd.zeroValue20
  t21 := Tryd.underlying21
  a21 := Tryd.isAgg21
  z21 := Tryd.sizeOf21
  v21 := Tryd.zeroValue21
  t37 := Tryd.underlying49
  a37 := Tryd.isAgg49
  z37 := Tryd.sizeOf49
  v37 := Tryd.zeroValue49
  t46 := Tryd.underlying81
  a46 := Tryd.isAgg81
  z46 := Tryd.sizeOf81
  v46 := Tryd.zeroValue81
  t51 := Tryd.underlying94
  a51 := Tryd.isAgg94
  z51 := Tryd.sizeOf94
  v51 := Tryd.zeroValue94
  t70 := Tryd.underlying48
  a70 := Tryd.isAgg48
  z70 := Tryd.sizeOf48
  v70 := Tryd.zeroValue48
  t72 := Tryd.underlying51
  a72 := Tryd.isAgg51
  z72 := Tryd.sizeOf51
  v72 := Tryd.zeroValue51
  t75 := Tryd.underlying69
  a75 := Tryd.isAgg69
  z75 := Tryd.sizeOf69
  v75 := Tryd.zeroValue69
  t164 := Tryd.underlying84
  a164 := Tryd.isAgg84
  z164 := Tryd.sizeOf84
  v164 := Tryd.zeroValue84 }
theorem Tryd.Builder_Extra_168 : Builder.Extra Tryd.prog Tryd.lays168_ren where
  sizeBuilder := by kernel_rfl
  liesBuilder := by kernel_rfl
  t5 := Tryd.underlying5
  a5 := Tryd.isAgg5
  z5 := Tryd.sizeOf5
  v5 := Tryd.zeroValue5
  infoByte := by kernel_rfl
  cellsByte := by kernel_rfl
  sizeByte := by kernel_rfl
  neB5 := by decide
open Go.RowKit in
theorem Tryd.Builder_WriteRune_k (B b : Nat) (bs : List Value) (r : Int) (hr0 : -2147483648 ≤ r) (hr1 : r ≤ 2147483647) (w : World) (h : Lib.IsBuilderF 51 5 B b bs w) (hlen : bs.length + 4 ≤ 140737488355328) (hBw : B ≤ w.heap.size) :
    Calls Tryd.prog 34 #[.pointer (some ⟨b, 0, none⟩), .int .i32 r] w fun e w' => e = .returned (.tuple #[.int .i64 (Lib.runeCells r).length, .nilIface]) ∧ (Lib.BuilderAtF 51 5 B b (.pointer (some ⟨b, 0, none⟩)) (bs ++ Lib.runeCells r) w' ∧ Below B w w' ∧ Lib.OthersKept 5 (some b) w w') := Any.Builder_WriteRune_k Tryd.lays168 Tryd.Builder_Extra_168 B b bs r hr0 hr1 w h hlen hBw
end Go.Proofs
