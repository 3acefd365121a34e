/-
  Laid by hand after the kit's own layers: (*strings.Builder).WriteString and WriteRune at this translation. Conditions: each theorem's own.
-/
import Derived.Shelf.Strings.BuilderK
import Derived.Shelf.Strings.BuilderRune
import Derived.Test.YtjoagjkmghmnnaaShelf
namespace Go.Proofs
open Go.Shelf
def Try.lays166_ren : Go.Shelf.Ren := ⟨fun | 166 => 126 | 240 => 137 | 276 => 146 | n => n, fun | 0 => 0 | 3 => 3 | 4 => 4 | 5 => 5 | 9 => 9 | 20 => 20 | 37 => 46 | 70 => 180 | 72 => 182 | 75 => 190 | 80 => 74 | 164 => 209 | n => n, fun | n => n⟩
theorem Try.lays166 : Go.Proofs.Lays.n166 Try.prog Try.lays166_ren := {
  mixed := by kernel_rfl
  f166 := Try.func126.trans (congrArg some (by kernel_rfl))
  f240 := Try.func137.trans (congrArg some (by kernel_rfl))
  f276 := Try.func146.trans (congrArg some (by kernel_rfl))
  t0 := Try.underlying0
  a0 := Try.isAgg0
  z0 := Try.sizeOf0
  v0 := Try.zeroValue0
  t3 := Try.underlying3
  a3 := Try.isAgg3
  z3 := Try.sizeOf3
  v3 := Try.zeroValue3
  t4 := Try.underlying4
  a4 := Try.isAgg4
  z4 := Try.sizeOf4
  v4 := Try.zeroValue4
  t9 := Try.underlying9
  a9 := Try.isAgg9
  z9 := Try.sizeOf9
  v9 := Try.zeroValue9
  t20 := Try.underlying20
  a20 := Try.isAgg20
  z20 := Try.sizeOf20
  v20 := Try.zeroValue20
  t37 := Try.underlying46
  a37 := Try.isAgg46
  z37 := Try.sizeOf46
  v37 := Try.zeroValue46
  t70 := Try.underlying180
  a70 := Try.isAgg180
  z70 := Try.sizeOf180
  v70 := Try.zeroValue180
  t72 := Try.underlying182
  a72 := Try.isAgg182
  z72 := Try.sizeOf182
  v72 := Try.zeroValue182
  t75 := Try.underlying190
  a75 := Try.isAgg190
  z75 := Try.sizeOf190
  v75 := Try.zeroValue190
  t164 := Try.underlying209
  a164 := Try.isAgg209
  z164 := Try.sizeOf209
  v164 := Try.zeroValue209 }
theorem Try.Builder_Extra_166 : Builder.Extra Try.prog Try.lays166_ren where
  sizeBuilder := by kernel_rfl
  liesBuilder := by kernel_rfl
  t5 := Try.underlying5
  a5 := Try.isAgg5
  z5 := Try.sizeOf5
  v5 := Try.zeroValue5
  infoByte := by kernel_rfl
  cellsByte := by kernel_rfl
  sizeByte := by kernel_rfl
  neB5 := by decide
open Go.RowKit in
theorem Try.Builder_WriteString_k (B b : Nat) (bs : List Value) (s : ByteArray) (w : World) (h : Lib.IsBuilderF 182 5 B b bs w) (hlen : bs.length + s.size ≤ 140737488355328) (hBw : B ≤ w.heap.size) :
    Calls Try.prog 126 #[.pointer (some ⟨b, 0, none⟩), .string s] w fun e w' => e = .returned (.tuple #[.int .i64 s.size, .nilIface]) ∧ (Lib.BuilderAtF 182 5 B b (.pointer (some ⟨b, 0, none⟩)) (bs ++ Lib.strCells s) w' ∧ Below B w w' ∧ Lib.OthersKept 5 (some b) w w') := Any.Builder_WriteString_k Try.lays166 Try.Builder_Extra_166 B b bs s w h hlen hBw
def Try.lays168_ren : Go.Shelf.Ren := ⟨fun | 168 => 130 | 240 => 137 | 242 => 142 | 276 => 146 | 278 => 148 | n => n, fun | 0 => 0 | 3 => 3 | 4 => 4 | 5 => 5 | 9 => 9 | 20 => 20 | 21 => 21 | 37 => 46 | 46 => 193 | 51 => 200 | 70 => 180 | 72 => 182 | 75 => 190 | 80 => 74 | 164 => 209 | n => n, fun | n => n⟩
theorem Try.lays168 : Go.Proofs.Lays.n168 Try.prog Try.lays168_ren := {
  mixed := by kernel_rfl
  f168 := Try.func130.trans (congrArg some (by kernel_rfl))
  f240 := Try.func137.trans (congrArg some (by kernel_rfl))
  f242 := Try.func142.trans (congrArg some (by kernel_rfl))
  f276 := Try.func146.trans (congrArg some (by kernel_rfl))
  f278 := Try.func148.trans (congrArg some (by kernel_rfl))
  t0 := Try.underlying0
  a0 := Try.isAgg0
  z0 := Try.sizeOf0
  v0 := Try.zeroValue0
  t3 := Try.underlying3
  a3 := Try.isAgg3
  z3 := Try.sizeOf3
  v3 := Try.zeroValue3
  t4 := Try.underlying4
  a4 := Try.isAgg4
  z4 := Try.sizeOf4
  v4 := Try.zeroValue4
  t5 := Try.underlying5
  a5 := Try.isAgg5
  z5 := Try.sizeOf5
  v5 := Try.zeroValue5
  t9 := Try.underlying9
  a9 := Try.isAgg9
  z9 := Try.sizeOf9
  v9 := Try.zeroValue9
  t20 := Try.underlying20
  a20 := Try.isAgg20
  z20 := Try.sizeOf20
  v20 := Try.zeroValue20
  t21 := Try.underlying21
  a21 := Try.isAgg21
  z21 := Try.sizeOf21
  v21 := Try.zeroValue21
  t37 := Try.underlying46
  a37 := Try.isAgg46
  z37 := Try.sizeOf46
  v37 := Try.zeroValue46
  t46 := Try.underlying193
  a46 := Try.isAgg193
  z46 := Try.sizeOf193
  v46 := Try.zeroValue193
  t51 := Try.underlying200
  a51 := Try.isAgg200
  z51 := Try.sizeOf200
  v51 := Try.zeroValue200
  t70 := Try.underlying180
  a70 := Try.isAgg180
  z70 := Try.sizeOf180
  v70 := Try.zeroValue180
  t72 := Try.underlying182
  a72 := Try.isAgg182
  z72 := Try.sizeOf182
  v72 := Try.zeroValue182
  t75 := Try.underlying190
  a75 := Try.isAgg190
  z75 := Try.sizeOf190
  v75 := Try.zeroValue190
  t164 := Try.underlying209
  a164 := Try.isAgg209
  z164 := Try.sizeOf209
  v164 := Try.zeroValue209 }
theorem Try.Builder_Extra_168 : Builder.Extra Try.prog Try.lays168_ren where
  sizeBuilder := by kernel_rfl
  liesBuilder := by kernel_rfl
  t5 := Try.underlying5
  a5 := Try.isAgg5
  z5 := Try.sizeOf5
  v5 := Try.zeroValue5
  infoByte := by kernel_rfl
  cellsByte := by kernel_rfl
  sizeByte := by kernel_rfl
  neB5 := by decide
open Go.RowKit in
theorem Try.Builder_WriteRune_k (B b : Nat) (bs : List Value) (r : Int) (hr0 : -2147483648 ≤ r) (hr1 : r ≤ 2147483647) (w : World) (h : Lib.IsBuilderF 182 5 B b bs w) (hlen : bs.length + 4 ≤ 140737488355328) (hBw : B ≤ w.heap.size) :
    Calls Try.prog 130 #[.pointer (some ⟨b, 0, none⟩), .int .i32 r] w fun e w' => e = .returned (.tuple #[.int .i64 (Lib.runeCells r).length, .nilIface]) ∧ (Lib.BuilderAtF 182 5 B b (.pointer (some ⟨b, 0, none⟩)) (bs ++ Lib.runeCells r) w' ∧ Below B w w' ∧ Lib.OthersKept 5 (some b) w w') := Any.Builder_WriteRune_k Try.lays168 Try.Builder_Extra_168 B b bs r hr0 hr1 w h hlen hBw
end Go.Proofs
