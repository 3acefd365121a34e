/-
  Laid by the kit's own tool: contracts of Go's library at this translation. Conditions: each theorem's own.
-/
import Derived.Shelf.Strings.Builder1
import Derived.Shelf.Strings.Builder2
import Derived.Shelf.Strings.OnBuilder
import Derived.Shelf.Strings.BuilderF
import Derived.Shelf.Strings.BuilderK
import Derived.Shelf.Strings.BuilderRune
import Derived.Shelf.Utf8.RuneCount
import Derived.Shelf.Strings.Builder2Cap
import Derived.Shelf.Strings.Prefix
import Derived.Shelf.Strings.RuneCount
import Derived.Shelf.Bits.Mul64
import Derived.Shelf.Strings.Repeat
import Derived.Test.YtphnnbbgcnilgaaProg
namespace Go.Proofs
open Go.Shelf
def Try.lays170_ren : Go.Shelf.Ren := ⟨fun | 170 => 73 | n => n, fun | 70 => 83 | 3 => 3 | 0 => 0 | 72 => 85 | 37 => 30 | 5 => 5 | n => n, fun | n => n⟩
def Try.lays169_ren : Go.Shelf.Ren := ⟨fun | 169 => 67 | n => n, fun | 70 => 83 | 9 => 9 | 0 => 0 | 72 => 85 | 37 => 30 | 127 => 126 | 3 => 3 | 5 => 5 | n => n, fun | n => n⟩
theorem Try.lays169 : Go.Proofs.Lays.n169 Try.prog Try.lays169_ren := {
  mixed := by kernel_rfl
  f169 := Try.func67.trans (congrArg some (by kernel_rfl))
  t0 := Try.underlying0
  a0 := Try.isAgg0
  z0 := Try.sizeOf0
  v0 := Try.zeroValue0
  t3 := Try.underlying3
  a3 := Try.isAgg3
  z3 := Try.sizeOf3
  v3 := Try.zeroValue3
  t9 := Try.underlying9
  a9 := Try.isAgg9
  z9 := Try.sizeOf9
  v9 := Try.zeroValue9
  t37 := Try.underlying30
  a37 := Try.isAgg30
  z37 := Try.sizeOf30
  v37 := Try.zeroValue30
  t70 := Try.underlying83
  a70 := Try.isAgg83
  z70 := Try.sizeOf83
  v70 := Try.zeroValue83
  t72 := Try.underlying85
  a72 := Try.isAgg85
  z72 := Try.sizeOf85
  v72 := Try.zeroValue85
  t127 := Try.underlying126
  a127 := Try.isAgg126
  z127 := Try.sizeOf126
  v127 := Try.zeroValue126 }
theorem Try.Builder_Extra_169 : Builder.Extra Try.prog Try.lays169_ren := {
  sizeBuilder := by kernel_rfl
  liesBuilder := by kernel_rfl
  t5 := Try.underlying5
  a5 := Try.isAgg5
  z5 := Try.sizeOf5
  v5 := Try.zeroValue5
  infoByte := by kernel_rfl
  cellsByte := by kernel_rfl
  sizeByte := by kernel_rfl
  neB5 := by decide }
def Try.lays241_ren : Go.Shelf.Ren := ⟨fun | 241 => 61 | 277 => 75 | n => n, fun | 70 => 83 | 3 => 3 | 0 => 0 | 72 => 85 | 37 => 30 | 5 => 5 | n => n, fun | n => n⟩
def Try.lays165_ren : Go.Shelf.Ren := ⟨fun | 165 => 47 | 240 => 60 | 241 => 61 | 276 => 74 | 277 => 75 | n => n, fun | 70 => 83 | 3 => 3 | 0 => 0 | 4 => 4 | 9 => 9 | 20 => 20 | 72 => 85 | 37 => 30 | 164 => 120 | 5 => 5 | n => n, fun | n => n⟩
theorem Try.lays165 : Go.Proofs.Lays.n165 Try.prog Try.lays165_ren := {
  mixed := by kernel_rfl
  f165 := Try.func47.trans (congrArg some (by kernel_rfl))
  f240 := Try.func60.trans (congrArg some (by kernel_rfl))
  f241 := Try.func61.trans (congrArg some (by kernel_rfl))
  f276 := Try.func74.trans (congrArg some (by kernel_rfl))
  f277 := Try.func75.trans (congrArg some (by kernel_rfl))
  t0 := Try.underlying0
  a0 := Try.isAgg0
  z0 := Try.sizeOf0
  v0 := Try.zeroValue0
  t3 := Try.underlying3
  a3 := Try.isAgg3
  z3 := Try.sizeOf3
  v3 := Try.zeroValue3
  t4 := Try.underlying4
  a4 := Try.isAgg4
  z4 := Try.sizeOf4
  v4 := Try.zeroValue4
  t9 := Try.underlying9
  a9 := Try.isAgg9
  z9 := Try.sizeOf9
  v9 := Try.zeroValue9
  t20 := Try.underlying20
  a20 := Try.isAgg20
  z20 := Try.sizeOf20
  v20 := Try.zeroValue20
  t37 := Try.underlying30
  a37 := Try.isAgg30
  z37 := Try.sizeOf30
  v37 := Try.zeroValue30
  t70 := Try.underlying83
  a70 := Try.isAgg83
  z70 := Try.sizeOf83
  v70 := Try.zeroValue83
  t72 := Try.underlying85
  a72 := Try.isAgg85
  z72 := Try.sizeOf85
  v72 := Try.zeroValue85
  t164 := Try.underlying120
  a164 := Try.isAgg120
  z164 := Try.sizeOf120
  v164 := Try.zeroValue120 }
theorem Try.Builder_Extra_165 : Builder.Extra Try.prog Try.lays165_ren := {
  sizeBuilder := by kernel_rfl
  liesBuilder := by kernel_rfl
  t5 := Try.underlying5
  a5 := Try.isAgg5
  z5 := Try.sizeOf5
  v5 := Try.zeroValue5
  infoByte := by kernel_rfl
  cellsByte := by kernel_rfl
  sizeByte := by kernel_rfl
  neB5 := by decide }
open Go.RowKit in
theorem Try.Builder_Grow_fresh (B b n : Nat) (w : World) (hB : B ≤ b) (hbk : w.heap[b]? = some (.cells #[.pointer none, .slice none 0 0] 85 (0, 0))) (hBw : B ≤ w.heap.size) (hn : n ≤ 281474976710656) :
    Calls Try.prog 47 #[.pointer (some ⟨b, 0, none⟩), .int .i64 n] w fun e w' => e = .returned (.tuple #[]) ∧ (Lib.BuilderAt 85 5 B b (.pointer (some ⟨b, 0, none⟩)) [] w' ∧ Below B w w') := Any.Builder_Grow_fresh Try.lays165 Try.Builder_Extra_165 B b n w hB hbk hBw hn
def Try.lays156_ren : Go.Shelf.Ren := ⟨fun | 156 => 82 | 165 => 47 | 166 => 62 | 169 => 67 | 240 => 60 | 241 => 61 | 276 => 74 | 277 => 75 | n => n, fun | 31 => 56 | 9 => 9 | 3 => 3 | 4 => 4 | 0 => 0 | 20 => 20 | 72 => 85 | 76 => 109 | 70 => 83 | 37 => 30 | 75 => 108 | 127 => 126 | 164 => 120 | 5 => 5 | 80 => 55 | n => n, fun | n => n⟩
open Go.RowKit in
theorem Try.Builder_String_any_k (B b : Nat) (l : List UInt8) (w : World) (h : Lib.IsBuilderF 85 5 B b (Lib.byteCells l) w) (hBw : B ≤ w.heap.size) :
    Calls Try.prog 67 #[.pointer (some ⟨b, 0, none⟩)] w fun e w' => e = .returned (.string ⟨l.toArray⟩) ∧ (Lib.IsBuilderF 85 5 B b (Lib.byteCells l) w' ∧ Below B w w' ∧ Lib.OthersKept 5 (some b) w w') := Any.Builder_String_any_k Try.lays169 Try.Builder_Extra_169 B b l w h hBw
def Try.lays195_ren : Go.Shelf.Ren := ⟨fun | 195 => 59 | n => n, fun | 9 => 9 | 3 => 3 | 0 => 0 | 4 => 4 | n => n, fun | n => n⟩
theorem Try.lays195 : Go.Proofs.Lays.n195 Try.prog Try.lays195_ren := {
  mixed := by kernel_rfl
  f195 := Try.func59.trans (congrArg some (by kernel_rfl))
  t0 := Try.underlying0
  a0 := Try.isAgg0
  z0 := Try.sizeOf0
  v0 := Try.zeroValue0
  t3 := Try.underlying3
  a3 := Try.isAgg3
  z3 := Try.sizeOf3
  v3 := Try.zeroValue3
  t4 := Try.underlying4
  a4 := Try.isAgg4
  z4 := Try.sizeOf4
  v4 := Try.zeroValue4
  t9 := Try.underlying9
  a9 := Try.isAgg9
  z9 := Try.sizeOf9
  v9 := Try.zeroValue9 }
open Go.RowKit in
theorem Try.utf8_RuneCountInString (s : ByteArray) (w : World) (hs : s.size < 9223372036854775807) :
    Calls Try.prog 59 #[.string s] w fun e w' => e = .returned (.int .i64 (Lib.runeCount s)) ∧ ∃ pos, w' = w.iter s pos := Any.utf8_RuneCountInString Try.lays195 s w hs
def Try.lays206_ren : Go.Shelf.Ren := ⟨fun | 206 => 85 | n => n, fun | 9 => 9 | 4 => 4 | 3 => 3 | n => n, fun | n => n⟩
def Try.lays99_ren : Go.Shelf.Ren := ⟨fun | 99 => 72 | 206 => 85 | n => n, fun | 9 => 9 | 4 => 4 | 3 => 3 | n => n, fun | n => n⟩
def Try.lays264_ren : Go.Shelf.Ren := ⟨fun | 264 => 84 | n => n, fun | 53 => 133 | 46 => 116 | n => n, fun | n => n⟩
def Try.lays212_ren : Go.Shelf.Ren := ⟨fun | 212 => 71 | 263 => 83 | 264 => 84 | n => n, fun | 46 => 116 | 51 => 130 | 146 => 131 | 53 => 133 | 148 => 134 | n => n, fun | n => n⟩
def Try.lays105_ren : Go.Shelf.Ren := ⟨fun | 105 => 58 | 212 => 71 | 99 => 72 | 165 => 47 | 166 => 62 | 170 => 73 | 169 => 67 | 263 => 83 | 264 => 84 | 206 => 85 | 240 => 60 | 241 => 61 | 276 => 74 | 277 => 75 | n => n, fun | 9 => 9 | 3 => 3 | 4 => 4 | 20 => 20 | 0 => 0 | 46 => 116 | 109 => 117 | 5 => 5 | 72 => 85 | 76 => 109 | 51 => 130 | 146 => 131 | 53 => 133 | 148 => 134 | 70 => 83 | 37 => 30 | 75 => 108 | 127 => 126 | 164 => 120 | 80 => 55 | n => n, fun | n => n⟩
theorem Try.lays105 : Go.Proofs.Lays.n105 Try.prog Try.lays105_ren := {
  mixed := by kernel_rfl
  f99 := Try.func72.trans (congrArg some (by kernel_rfl))
  f105 := Try.func58.trans (congrArg some (by kernel_rfl))
  f165 := Try.func47.trans (congrArg some (by kernel_rfl))
  f166 := Try.func62.trans (congrArg some (by kernel_rfl))
  f169 := Try.func67.trans (congrArg some (by kernel_rfl))
  f170 := Try.func73.trans (congrArg some (by kernel_rfl))
  f206 := Try.func85.trans (congrArg some (by kernel_rfl))
  f212 := Try.func71.trans (congrArg some (by kernel_rfl))
  f240 := Try.func60.trans (congrArg some (by kernel_rfl))
  f241 := Try.func61.trans (congrArg some (by kernel_rfl))
  f263 := Try.func83.trans (congrArg some (by kernel_rfl))
  f264 := Try.func84.trans (congrArg some (by kernel_rfl))
  f276 := Try.func74.trans (congrArg some (by kernel_rfl))
  f277 := Try.func75.trans (congrArg some (by kernel_rfl))
  t0 := Try.underlying0
  a0 := Try.isAgg0
  z0 := Try.sizeOf0
  v0 := Try.zeroValue0
  t3 := Try.underlying3
  a3 := Try.isAgg3
  z3 := Try.sizeOf3
  v3 := Try.zeroValue3
  t4 := Try.underlying4
  a4 := Try.isAgg4
  z4 := Try.sizeOf4
  v4 := Try.zeroValue4
  t5 := Try.underlying5
  a5 := Try.isAgg5
  z5 := Try.sizeOf5
  v5 := Try.zeroValue5
  t9 := Try.underlying9
  a9 := Try.isAgg9
  z9 := Try.sizeOf9
  v9 := Try.zeroValue9
  t20 := Try.underlying20
  a20 := Try.isAgg20
  z20 := Try.sizeOf20
  v20 := Try.zeroValue20
  t37 := Try.underlying30
  a37 := Try.isAgg30
  z37 := Try.sizeOf30
  v37 := Try.zeroValue30
  t46 := Try.underlying116
  a46 := Try.isAgg116
  z46 := Try.sizeOf116
  v46 := Try.zeroValue116
  t51 := Try.underlying130
  a51 := Try.isAgg130
  z51 := Try.sizeOf130
  v51 := Try.zeroValue130
  t53 := Try.underlying133
  a53 := Try.isAgg133
  z53 := Try.sizeOf133
  v53 := Try.zeroValue133
  t70 := Try.underlying83
  a70 := Try.isAgg83
  z70 := Try.sizeOf83
  v70 := Try.zeroValue83
  t72 := Try.underlying85
  a72 := Try.isAgg85
  z72 := Try.sizeOf85
  v72 := Try.zeroValue85
  t75 := Try.underlying108
  a75 := Try.isAgg108
  z75 := Try.sizeOf108
  v75 := Try.zeroValue108
  t76 := Try.underlying109
  a76 := Try.isAgg109
  z76 := Try.sizeOf109
  v76 := Try.zeroValue109
  t109 := Try.underlying117
  a109 := Try.isAgg117
  z109 := Try.sizeOf117
  v109 := Try.zeroValue117
  t127 := Try.underlying126
  a127 := Try.isAgg126
  z127 := Try.sizeOf126
  v127 := Try.zeroValue126
  t146 := Try.underlying131
  a146 := Try.isAgg131
  z146 := Try.sizeOf131
  v146 := Try.zeroValue131
  t148 := Try.underlying134
  a148 := Try.isAgg134
  z148 := Try.sizeOf134
  v148 := Try.zeroValue134
  t164 := Try.underlying120
  a164 := Try.isAgg120
  z164 := Try.sizeOf120
  v164 := Try.zeroValue120 }
theorem Try.Builder_Extra_105 : Builder.Extra Try.prog Try.lays105_ren := {
  sizeBuilder := by kernel_rfl
  liesBuilder := by kernel_rfl
  t5 := Try.underlying5
  a5 := Try.isAgg5
  z5 := Try.sizeOf5
  v5 := Try.zeroValue5
  infoByte := by kernel_rfl
  cellsByte := by kernel_rfl
  sizeByte := by kernel_rfl
  neB5 := by decide }
open Go.RowKit Go.Lib in
theorem Try.strings_Repeat (s : ByteArray) (c : Nat) (w : World) (hc : c ≤ 9223372036854775807) (hlen : s.size * c ≤ 140737488355328) :
    Calls Try.prog 58 #[.string s, .int .i64 c] w fun e w' => e = .returned (.string ⟨(Lib.repeatL s.data.toList c).toArray⟩) ∧ Below w.heap.size w w' := Any.strings_Repeat Try.lays105 Try.Builder_Extra_105 s c w hc hlen
end Go.Proofs
