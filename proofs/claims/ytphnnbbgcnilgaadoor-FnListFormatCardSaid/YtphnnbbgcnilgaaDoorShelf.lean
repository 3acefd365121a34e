/-
  Laid by the kit's own tool: contracts of Go's library at this translation. Conditions: each theorem's own.
-/
import Derived.Shelf.Strings.Builder1
import Derived.Shelf.Strings.Builder2
import Derived.Shelf.Strings.OnBuilder
import Derived.Shelf.Small.Utf8
import Derived.Shelf.Strings.BuilderF
import Derived.Shelf.Strings.BuilderK
import Derived.Shelf.Strings.BuilderRune
import Derived.Shelf.Utf8.RuneCount
import Derived.Shelf.Strings.Builder2Cap
import Derived.Shelf.Strings.Prefix
import Derived.Shelf.Unicode.Latin
import Derived.Shelf.Unicode.Props
import Derived.Shelf.Unicode.Decode
import Derived.Shelf.Strings.RuneCount
import Derived.Shelf.Bits.Mul64
import Derived.Shelf.Strings.Repeat
import Derived.Shelf.Unicode.DecodeSlow
import Derived.Shelf.Unicode.DecodeAny
import Derived.Shelf.Unicode.Is16White
import Derived.Shelf.Unicode.IsSpaceAny
import Derived.Shelf.Unicode.CaseLookup
import Derived.Shelf.Unicode.CaseConvert
import Derived.Shelf.Unicode.CaseTo
import Derived.Shelf.Unicode.CaseLaid
import Derived.Shelf.Strings.MapAny
import Derived.Shelf.Strings.CaseAny
import Derived.Shelf.Unicode.Is16Any
import Derived.Shelf.Unicode.Is32Any
import Derived.Shelf.Unicode.ExclAny
import Derived.Shelf.Unicode.PredsAny
import Derived.Shelf.Unicode.PredsPay
import Derived.Test.YtphnnbbgcnilgaaDoorProg
namespace Go.Proofs
open Go.Shelf
def Tryd.lays170_ren : Go.Shelf.Ren := ⟨fun | 170 => 71 | n => n, fun | 70 => 68 | 3 => 3 | 0 => 0 | 72 => 70 | 37 => 59 | 5 => 5 | n => n, fun | n => n⟩
def Tryd.lays169_ren : Go.Shelf.Ren := ⟨fun | 169 => 58 | n => n, fun | 70 => 68 | 9 => 9 | 0 => 0 | 72 => 70 | 37 => 59 | 127 => 107 | 3 => 3 | 5 => 5 | n => n, fun | n => n⟩
theorem Tryd.lays169 : Go.Proofs.Lays.n169 Tryd.prog Tryd.lays169_ren := {
  mixed := by kernel_rfl
  f169 := Tryd.func58.trans (congrArg some (by kernel_rfl))
  t0 := Tryd.underlying0
  a0 := Tryd.isAgg0
  z0 := Tryd.sizeOf0
  v0 := Tryd.zeroValue0
  t3 := Tryd.underlying3
  a3 := Tryd.isAgg3
  z3 := Tryd.sizeOf3
  v3 := Tryd.zeroValue3
  t9 := Tryd.underlying9
  a9 := Tryd.isAgg9
  z9 := Tryd.sizeOf9
  v9 := Tryd.zeroValue9
  t37 := Tryd.underlying59
  a37 := Tryd.isAgg59
  z37 := Tryd.sizeOf59
  v37 := Tryd.zeroValue59
  t70 := Tryd.underlying68
  a70 := Tryd.isAgg68
  z70 := Tryd.sizeOf68
  v70 := Tryd.zeroValue68
  t72 := Tryd.underlying70
  a72 := Tryd.isAgg70
  z72 := Tryd.sizeOf70
  v72 := Tryd.zeroValue70
  t127 := Tryd.underlying107
  a127 := Tryd.isAgg107
  z127 := Tryd.sizeOf107
  v127 := Tryd.zeroValue107 }
theorem Tryd.Builder_Extra_169 : Builder.Extra Tryd.prog Tryd.lays169_ren := {
  sizeBuilder := by kernel_rfl
  liesBuilder := by kernel_rfl
  t5 := Tryd.underlying5
  a5 := Tryd.isAgg5
  z5 := Tryd.sizeOf5
  v5 := Tryd.zeroValue5
  infoByte := by kernel_rfl
  cellsByte := by kernel_rfl
  sizeByte := by kernel_rfl
  neB5 := by decide }
def Tryd.lays241_ren : Go.Shelf.Ren := ⟨fun | 241 => 50 | 277 => 73 | n => n, fun | 70 => 68 | 3 => 3 | 0 => 0 | 72 => 70 | 37 => 59 | 5 => 5 | n => n, fun | n => n⟩
def Tryd.lays165_ren : Go.Shelf.Ren := ⟨fun | 165 => 37 | 240 => 49 | 241 => 50 | 276 => 72 | 277 => 73 | n => n, fun | 70 => 68 | 3 => 3 | 0 => 0 | 4 => 4 | 9 => 9 | 20 => 20 | 72 => 70 | 37 => 59 | 164 => 101 | 5 => 5 | n => n, fun | n => n⟩
theorem Tryd.lays165 : Go.Proofs.Lays.n165 Tryd.prog Tryd.lays165_ren := {
  mixed := by kernel_rfl
  f165 := Tryd.func37.trans (congrArg some (by kernel_rfl))
  f240 := Tryd.func49.trans (congrArg some (by kernel_rfl))
  f241 := Tryd.func50.trans (congrArg some (by kernel_rfl))
  f276 := Tryd.func72.trans (congrArg some (by kernel_rfl))
  f277 := Tryd.func73.trans (congrArg some (by kernel_rfl))
  t0 := Tryd.underlying0
  a0 := Tryd.isAgg0
  z0 := Tryd.sizeOf0
  v0 := Tryd.zeroValue0
  t3 := Tryd.underlying3
  a3 := Tryd.isAgg3
  z3 := Tryd.sizeOf3
  v3 := Tryd.zeroValue3
  t4 := Tryd.underlying4
  a4 := Tryd.isAgg4
  z4 := Tryd.sizeOf4
  v4 := Tryd.zeroValue4
  t9 := Tryd.underlying9
  a9 := Tryd.isAgg9
  z9 := Tryd.sizeOf9
  v9 := Tryd.zeroValue9
  t20 := Tryd.underlying20
  a20 := Tryd.isAgg20
  z20 := Tryd.sizeOf20
  v20 := Tryd.zeroValue20
  t37 := Tryd.underlying59
  a37 := Tryd.isAgg59
  z37 := Tryd.sizeOf59
  v37 := Tryd.zeroValue59
  t70 := Tryd.underlying68
  a70 := Tryd.isAgg68
  z70 := Tryd.sizeOf68
  v70 := Tryd.zeroValue68
  t72 := Tryd.underlying70
  a72 := Tryd.isAgg70
  z72 := Tryd.sizeOf70
  v72 := Tryd.zeroValue70
  t164 := Tryd.underlying101
  a164 := Tryd.isAgg101
  z164 := Tryd.sizeOf101
  v164 := Tryd.zeroValue101 }
theorem Tryd.Builder_Extra_165 : Builder.Extra Tryd.prog Tryd.lays165_ren := {
  sizeBuilder := by kernel_rfl
  liesBuilder := by kernel_rfl
  t5 := Tryd.underlying5
  a5 := Tryd.isAgg5
  z5 := Tryd.sizeOf5
  v5 := Tryd.zeroValue5
  infoByte := by kernel_rfl
  cellsByte := by kernel_rfl
  sizeByte := by kernel_rfl
  neB5 := by decide }
open Go.RowKit in
theorem Tryd.Builder_Grow_fresh (B b n : Nat) (w : World) (hB : B ≤ b) (hbk : w.heap[b]? = some (.cells #[.pointer none, .slice none 0 0] 70 (0, 0))) (hBw : B ≤ w.heap.size) (hn : n ≤ 281474976710656) :
    Calls Tryd.prog 37 #[.pointer (some ⟨b, 0, none⟩), .int .i64 n] w fun e w' => e = .returned (.tuple #[]) ∧ (Lib.BuilderAt 70 5 B b (.pointer (some ⟨b, 0, none⟩)) [] w' ∧ Below B w w') := Any.Builder_Grow_fresh Tryd.lays165 Tryd.Builder_Extra_165 B b n w hB hbk hBw hn
def Tryd.lays159_ren : Go.Shelf.Ren := ⟨fun | 159 => 41 | 165 => 37 | 166 => 57 | 167 => 59 | 169 => 58 | 230 => 60 | 204 => 61 | 240 => 49 | 241 => 50 | 197 => 77 | 118 => 78 | 168 => 51 | 270 => 79 | 262 => 80 | 276 => 72 | 277 => 73 | 260 => 93 | 242 => 74 | 313 => 94 | 278 => 92 | 274 => 98 | 275 => 99 | n => n, fun | 9 => 9 | 4 => 4 | 3 => 3 | 5 => 5 | 72 => 70 | 0 => 0 | 76 => 84 | 75 => 83 | 107 => 94 | 70 => 68 | 20 => 20 | 37 => 59 | 127 => 107 | 21 => 21 | 105 => 108 | 164 => 101 | 162 => 122 | 203 => 120 | 119 => 123 | 46 => 97 | 139 => 129 | 138 => 128 | 51 => 114 | 160 => 130 | 208 => 148 | 206 => 146 | 80 => 55 | n => n, fun | 13 => 1 | 3 => 6 | 4 => 7 | n => n⟩
theorem Tryd.lays159 : Go.Proofs.Lays.n159 Tryd.prog Tryd.lays159_ren := {
  mixed := by kernel_rfl
  f118 := Tryd.func78.trans (congrArg some (by kernel_rfl))
  f159 := Tryd.func41.trans (congrArg some (by kernel_rfl))
  f165 := Tryd.func37.trans (congrArg some (by kernel_rfl))
  f166 := Tryd.func57.trans (congrArg some (by kernel_rfl))
  f167 := Tryd.func59.trans (congrArg some (by kernel_rfl))
  f168 := Tryd.func51.trans (congrArg some (by kernel_rfl))
  f169 := Tryd.func58.trans (congrArg some (by kernel_rfl))
  f197 := Tryd.func77.trans (congrArg some (by kernel_rfl))
  f204 := Tryd.func61.trans (congrArg some (by kernel_rfl))
  f230 := Tryd.func60.trans (congrArg some (by kernel_rfl))
  f240 := Tryd.func49.trans (congrArg some (by kernel_rfl))
  f241 := Tryd.func50.trans (congrArg some (by kernel_rfl))
  f242 := Tryd.func74.trans (congrArg some (by kernel_rfl))
  f260 := Tryd.func93.trans (congrArg some (by kernel_rfl))
  f262 := Tryd.func80.trans (congrArg some (by kernel_rfl))
  f270 := Tryd.func79.trans (congrArg some (by kernel_rfl))
  f274 := Tryd.func98.trans (congrArg some (by kernel_rfl))
  f275 := Tryd.func99.trans (congrArg some (by kernel_rfl))
  f276 := Tryd.func72.trans (congrArg some (by kernel_rfl))
  f277 := Tryd.func73.trans (congrArg some (by kernel_rfl))
  f278 := Tryd.func92.trans (congrArg some (by kernel_rfl))
  f313 := Tryd.func94.trans (congrArg some (by kernel_rfl))
  t0 := Tryd.underlying0
  a0 := Tryd.isAgg0
  z0 := Tryd.sizeOf0
  v0 := Tryd.zeroValue0
  t3 := Tryd.underlying3
  a3 := Tryd.isAgg3
  z3 := Tryd.sizeOf3
  v3 := Tryd.zeroValue3
  t4 := Tryd.underlying4
  a4 := Tryd.isAgg4
  z4 := Tryd.sizeOf4
  v4 := Tryd.zeroValue4
  t5 := Tryd.underlying5
  a5 := Tryd.isAgg5
  z5 := Tryd.sizeOf5
  v5 := Tryd.zeroValue5
  t9 := Tryd.underlying9
  a9 := Tryd.isAgg9
  z9 := Tryd.sizeOf9
  v9 := Tryd.zeroValue9
  t20 := Tryd.underlying20
  a20 := Tryd.isAgg20
  z20 := Tryd.sizeOf20
  v20 := Tryd.zeroValue20
  t21 := Tryd.underlying21
  a21 := Tryd.isAgg21
  z21 := Tryd.sizeOf21
  v21 := Tryd.zeroValue21
  t37 := Tryd.underlying59
  a37 := Tryd.isAgg59
  z37 := Tryd.sizeOf59
  v37 := Tryd.zeroValue59
  t46 := Tryd.underlying97
  a46 := Tryd.isAgg97
  z46 := Tryd.sizeOf97
  v46 := Tryd.zeroValue97
  t51 := Tryd.underlying114
  a51 := Tryd.isAgg114
  z51 := Tryd.sizeOf114
  v51 := Tryd.zeroValue114
  t70 := Tryd.underlying68
  a70 := Tryd.isAgg68
  z70 := Tryd.sizeOf68
  v70 := Tryd.zeroValue68
  t72 := Tryd.underlying70
  a72 := Tryd.isAgg70
  z72 := Tryd.sizeOf70
  v72 := Tryd.zeroValue70
  t75 := Tryd.underlying83
  a75 := Tryd.isAgg83
  z75 := Tryd.sizeOf83
  v75 := Tryd.zeroValue83
  t76 := Tryd.underlying84
  a76 := Tryd.isAgg84
  z76 := Tryd.sizeOf84
  v76 := Tryd.zeroValue84
  t105 := Tryd.underlying108
  a105 := Tryd.isAgg108
  z105 := Tryd.sizeOf108
  v105 := Tryd.zeroValue108
  t107 := Tryd.underlying94
  a107 := Tryd.isAgg94
  z107 := Tryd.sizeOf94
  v107 := Tryd.zeroValue94
  t119 := Tryd.underlying123
  a119 := Tryd.isAgg123
  z119 := Tryd.sizeOf123
  t127 := Tryd.underlying107
  a127 := Tryd.isAgg107
  z127 := Tryd.sizeOf107
  v127 := Tryd.zeroValue107
  t138 := Tryd.underlying128
  a138 := Tryd.isAgg128
  z138 := Tryd.sizeOf128
  v138 := Tryd.zeroValue128
  t139 := Tryd.underlying129
  a139 := Tryd.isAgg129
  z139 := Tryd.sizeOf129
  v139 := Tryd.zeroValue129
  t160 := Tryd.underlying130
  a160 := Tryd.isAgg130
  z160 := Tryd.sizeOf130
  v160 := Tryd.zeroValue130
  t162 := Tryd.underlying122
  a162 := Tryd.isAgg122
  z162 := Tryd.sizeOf122
  v162 := Tryd.zeroValue122
  t164 := Tryd.underlying101
  a164 := Tryd.isAgg101
  z164 := Tryd.sizeOf101
  v164 := Tryd.zeroValue101
  t203 := Tryd.underlying120
  a203 := Tryd.isAgg120
  z203 := Tryd.sizeOf120
  v203 := Tryd.zeroValue120
  t206 := Tryd.underlying146
  a206 := Tryd.isAgg146
  z206 := Tryd.sizeOf146
  v206 := Tryd.zeroValue146
  t208 := Tryd.underlying148
  a208 := Tryd.isAgg148
  z208 := Tryd.sizeOf148
  v208 := Tryd.zeroValue148
  g3 := by kernel_rfl
  g4 := by kernel_rfl
  g13 := by kernel_rfl }
theorem Tryd.Builder_Extra_159 : Builder.Extra Tryd.prog Tryd.lays159_ren := {
  sizeBuilder := by kernel_rfl
  liesBuilder := by kernel_rfl
  t5 := Tryd.underlying5
  a5 := Tryd.isAgg5
  z5 := Tryd.sizeOf5
  v5 := Tryd.zeroValue5
  infoByte := by kernel_rfl
  cellsByte := by kernel_rfl
  sizeByte := by kernel_rfl
  neB5 := by decide }
def Tryd.lays156_ren : Go.Shelf.Ren := ⟨fun | 156 => 88 | 165 => 37 | 166 => 57 | 169 => 58 | 240 => 49 | 241 => 50 | 276 => 72 | 277 => 73 | n => n, fun | 31 => 41 | 9 => 9 | 3 => 3 | 4 => 4 | 0 => 0 | 20 => 20 | 72 => 70 | 76 => 84 | 70 => 68 | 37 => 59 | 75 => 83 | 127 => 107 | 164 => 101 | 5 => 5 | 80 => 55 | n => n, fun | n => n⟩
def Tryd.lays118_ren : Go.Shelf.Ren := ⟨fun | 118 => 78 | n => n, fun | 21 => 21 | 3 => 3 | 4 => 4 | n => n, fun | n => n⟩
theorem Tryd.lays118 : Go.Proofs.Lays.n118 Tryd.prog Tryd.lays118_ren := {
  mixed := by kernel_rfl
  f118 := Tryd.func78.trans (congrArg some (by kernel_rfl))
  t3 := Tryd.underlying3
  a3 := Tryd.isAgg3
  z3 := Tryd.sizeOf3
  v3 := Tryd.zeroValue3
  t4 := Tryd.underlying4
  a4 := Tryd.isAgg4
  z4 := Tryd.sizeOf4
  v4 := Tryd.zeroValue4
  t21 := Tryd.underlying21
  a21 := Tryd.isAgg21
  z21 := Tryd.sizeOf21
  v21 := Tryd.zeroValue21 }
theorem Tryd.utf8_RuneLen (r : Int) (w : World) :
    Calls Tryd.prog 78 #[.int .i32 r] w fun e w' => e = .returned (.int .i64 (Lib.runeLen r)) ∧ w' = w := Any.utf8_RuneLen Tryd.lays118 r w
open Go.RowKit in
theorem Tryd.Builder_String_any_f (B b : Nat) (l : List UInt8) (w : World) (h : Lib.IsBuilderF 70 5 B b (Lib.byteCells l) w) (hBw : B ≤ w.heap.size) :
    Calls Tryd.prog 58 #[.pointer (some ⟨b, 0, none⟩)] w fun e w' => e = .returned (.string ⟨l.toArray⟩) ∧ (Lib.IsBuilderF 70 5 B b (Lib.byteCells l) w' ∧ Below B w w') := Any.Builder_String_any_f Tryd.lays169 Tryd.Builder_Extra_169 B b l w h hBw
open Go.RowKit in
theorem Tryd.Builder_String_any_k (B b : Nat) (l : List UInt8) (w : World) (h : Lib.IsBuilderF 70 5 B b (Lib.byteCells l) w) (hBw : B ≤ w.heap.size) :
    Calls Tryd.prog 58 #[.pointer (some ⟨b, 0, none⟩)] w fun e w' => e = .returned (.string ⟨l.toArray⟩) ∧ (Lib.IsBuilderF 70 5 B b (Lib.byteCells l) w' ∧ Below B w w' ∧ Lib.OthersKept 5 (some b) w w') := Any.Builder_String_any_k Tryd.lays169 Tryd.Builder_Extra_169 B b l w h hBw
def Tryd.lays195_ren : Go.Shelf.Ren := ⟨fun | 195 => 48 | n => n, fun | 9 => 9 | 3 => 3 | 0 => 0 | 4 => 4 | n => n, fun | n => n⟩
theorem Tryd.lays195 : Go.Proofs.Lays.n195 Tryd.prog Tryd.lays195_ren := {
  mixed := by kernel_rfl
  f195 := Tryd.func48.trans (congrArg some (by kernel_rfl))
  t0 := Tryd.underlying0
  a0 := Tryd.isAgg0
  z0 := Tryd.sizeOf0
  v0 := Tryd.zeroValue0
  t3 := Tryd.underlying3
  a3 := Tryd.isAgg3
  z3 := Tryd.sizeOf3
  v3 := Tryd.zeroValue3
  t4 := Tryd.underlying4
  a4 := Tryd.isAgg4
  z4 := Tryd.sizeOf4
  v4 := Tryd.zeroValue4
  t9 := Tryd.underlying9
  a9 := Tryd.isAgg9
  z9 := Tryd.sizeOf9
  v9 := Tryd.zeroValue9 }
open Go.RowKit in
theorem Tryd.utf8_RuneCountInString (s : ByteArray) (w : World) (hs : s.size < 9223372036854775807) :
    Calls Tryd.prog 48 #[.string s] w fun e w' => e = .returned (.int .i64 (Lib.runeCount s)) ∧ ∃ pos, w' = w.iter s pos := Any.utf8_RuneCountInString Tryd.lays195 s w hs
def Tryd.lays206_ren : Go.Shelf.Ren := ⟨fun | 206 => 91 | n => n, fun | 9 => 9 | 4 => 4 | 3 => 3 | n => n, fun | n => n⟩
def Tryd.lays99_ren : Go.Shelf.Ren := ⟨fun | 99 => 70 | 206 => 91 | n => n, fun | 9 => 9 | 4 => 4 | 3 => 3 | n => n, fun | n => n⟩
def Tryd.lays198_ren : Go.Shelf.Ren := ⟨fun | 198 => 82 | 261 => 95 | 311 => 100 | 312 => 101 | n => n, fun | 21 => 21 | 4 => 4 | 141 => 125 | 0 => 0 | 196 => 136 | 193 => 133 | 3 => 3 | 51 => 114 | 198 => 139 | 49 => 137 | 194 => 134 | 201 => 142 | 226 => 149 | 46 => 97 | 227 => 150 | n => n, fun | 5 => 4 | n => n⟩
theorem Tryd.lays198 : Go.Proofs.Lays.n198 Tryd.prog Tryd.lays198_ren := {
  mixed := by kernel_rfl
  f198 := Tryd.func82.trans (congrArg some (by kernel_rfl))
  f261 := Tryd.func95.trans (congrArg some (by kernel_rfl))
  f311 := Tryd.func100.trans (congrArg some (by kernel_rfl))
  f312 := Tryd.func101.trans (congrArg some (by kernel_rfl))
  t0 := Tryd.underlying0
  a0 := Tryd.isAgg0
  z0 := Tryd.sizeOf0
  v0 := Tryd.zeroValue0
  t3 := Tryd.underlying3
  a3 := Tryd.isAgg3
  z3 := Tryd.sizeOf3
  v3 := Tryd.zeroValue3
  t4 := Tryd.underlying4
  a4 := Tryd.isAgg4
  z4 := Tryd.sizeOf4
  v4 := Tryd.zeroValue4
  t21 := Tryd.underlying21
  a21 := Tryd.isAgg21
  z21 := Tryd.sizeOf21
  v21 := Tryd.zeroValue21
  t46 := Tryd.underlying97
  a46 := Tryd.isAgg97
  z46 := Tryd.sizeOf97
  v46 := Tryd.zeroValue97
  t49 := Tryd.underlying137
  a49 := Tryd.isAgg137
  z49 := Tryd.sizeOf137
  v49 := Tryd.zeroValue137
  t51 := Tryd.underlying114
  a51 := Tryd.isAgg114
  z51 := Tryd.sizeOf114
  v51 := Tryd.zeroValue114
  t141 := Tryd.underlying125
  a141 := Tryd.isAgg125
  z141 := Tryd.sizeOf125
  v141 := Tryd.zeroValue125
  t193 := Tryd.underlying133
  a193 := Tryd.isAgg133
  z193 := Tryd.sizeOf133
  v193 := Tryd.zeroValue133
  t194 := Tryd.underlying134
  a194 := Tryd.isAgg134
  z194 := Tryd.sizeOf134
  v194 := Tryd.zeroValue134
  t196 := Tryd.underlying136
  a196 := Tryd.isAgg136
  z196 := Tryd.sizeOf136
  v196 := Tryd.zeroValue136
  t198 := Tryd.underlying139
  a198 := Tryd.isAgg139
  z198 := Tryd.sizeOf139
  v198 := Tryd.zeroValue139
  t201 := Tryd.underlying142
  a201 := Tryd.isAgg142
  z201 := Tryd.sizeOf142
  v201 := Tryd.zeroValue142
  t226 := Tryd.underlying149
  a226 := Tryd.isAgg149
  z226 := Tryd.sizeOf149
  v226 := Tryd.zeroValue149
  t227 := Tryd.underlying150
  a227 := Tryd.isAgg150
  z227 := Tryd.sizeOf150
  v227 := Tryd.zeroValue150
  g5 := by kernel_rfl }
def Tryd.lays199_ren : Go.Shelf.Ren := ⟨fun | 199 => 83 | 261 => 95 | 311 => 100 | 312 => 101 | n => n, fun | 21 => 21 | 4 => 4 | 51 => 114 | 141 => 125 | 0 => 0 | 196 => 136 | 193 => 133 | 3 => 3 | 198 => 139 | 49 => 137 | 194 => 134 | 201 => 142 | 226 => 149 | 46 => 97 | 227 => 150 | n => n, fun | 6 => 5 | n => n⟩
theorem Tryd.lays199 : Go.Proofs.Lays.n199 Tryd.prog Tryd.lays199_ren := {
  mixed := by kernel_rfl
  f199 := Tryd.func83.trans (congrArg some (by kernel_rfl))
  f261 := Tryd.func95.trans (congrArg some (by kernel_rfl))
  f311 := Tryd.func100.trans (congrArg some (by kernel_rfl))
  f312 := Tryd.func101.trans (congrArg some (by kernel_rfl))
  t0 := Tryd.underlying0
  a0 := Tryd.isAgg0
  z0 := Tryd.sizeOf0
  v0 := Tryd.zeroValue0
  t3 := Tryd.underlying3
  a3 := Tryd.isAgg3
  z3 := Tryd.sizeOf3
  v3 := Tryd.zeroValue3
  t4 := Tryd.underlying4
  a4 := Tryd.isAgg4
  z4 := Tryd.sizeOf4
  v4 := Tryd.zeroValue4
  t21 := Tryd.underlying21
  a21 := Tryd.isAgg21
  z21 := Tryd.sizeOf21
  v21 := Tryd.zeroValue21
  t46 := Tryd.underlying97
  a46 := Tryd.isAgg97
  z46 := Tryd.sizeOf97
  v46 := Tryd.zeroValue97
  t49 := Tryd.underlying137
  a49 := Tryd.isAgg137
  z49 := Tryd.sizeOf137
  v49 := Tryd.zeroValue137
  t51 := Tryd.underlying114
  a51 := Tryd.isAgg114
  z51 := Tryd.sizeOf114
  v51 := Tryd.zeroValue114
  t141 := Tryd.underlying125
  a141 := Tryd.isAgg125
  z141 := Tryd.sizeOf125
  v141 := Tryd.zeroValue125
  t193 := Tryd.underlying133
  a193 := Tryd.isAgg133
  z193 := Tryd.sizeOf133
  v193 := Tryd.zeroValue133
  t194 := Tryd.underlying134
  a194 := Tryd.isAgg134
  z194 := Tryd.sizeOf134
  v194 := Tryd.zeroValue134
  t196 := Tryd.underlying136
  a196 := Tryd.isAgg136
  z196 := Tryd.sizeOf136
  v196 := Tryd.zeroValue136
  t198 := Tryd.underlying139
  a198 := Tryd.isAgg139
  z198 := Tryd.sizeOf139
  v198 := Tryd.zeroValue139
  t201 := Tryd.underlying142
  a201 := Tryd.isAgg142
  z201 := Tryd.sizeOf142
  v201 := Tryd.zeroValue142
  t226 := Tryd.underlying149
  a226 := Tryd.isAgg149
  z226 := Tryd.sizeOf149
  v226 := Tryd.zeroValue149
  t227 := Tryd.underlying150
  a227 := Tryd.isAgg150
  z227 := Tryd.sizeOf150
  v227 := Tryd.zeroValue150
  g6 := by kernel_rfl }
def Tryd.lays203_ren : Go.Shelf.Ren := ⟨fun | 203 => 64 | 262 => 80 | 313 => 94 | 274 => 98 | 275 => 99 | n => n, fun | 21 => 21 | 4 => 4 | 3 => 3 | 162 => 122 | 203 => 120 | 160 => 130 | 46 => 97 | 0 => 0 | 208 => 148 | 51 => 114 | 206 => 146 | n => n, fun | 13 => 1 | n => n⟩
theorem Tryd.lays203 : Go.Proofs.Lays.n203 Tryd.prog Tryd.lays203_ren := {
  mixed := by kernel_rfl
  f203 := Tryd.func64.trans (congrArg some (by kernel_rfl))
  f262 := Tryd.func80.trans (congrArg some (by kernel_rfl))
  f274 := Tryd.func98.trans (congrArg some (by kernel_rfl))
  f275 := Tryd.func99.trans (congrArg some (by kernel_rfl))
  f313 := Tryd.func94.trans (congrArg some (by kernel_rfl))
  t0 := Tryd.underlying0
  a0 := Tryd.isAgg0
  z0 := Tryd.sizeOf0
  v0 := Tryd.zeroValue0
  t3 := Tryd.underlying3
  a3 := Tryd.isAgg3
  z3 := Tryd.sizeOf3
  v3 := Tryd.zeroValue3
  t4 := Tryd.underlying4
  a4 := Tryd.isAgg4
  z4 := Tryd.sizeOf4
  v4 := Tryd.zeroValue4
  t21 := Tryd.underlying21
  a21 := Tryd.isAgg21
  z21 := Tryd.sizeOf21
  v21 := Tryd.zeroValue21
  t46 := Tryd.underlying97
  a46 := Tryd.isAgg97
  z46 := Tryd.sizeOf97
  v46 := Tryd.zeroValue97
  t51 := Tryd.underlying114
  a51 := Tryd.isAgg114
  z51 := Tryd.sizeOf114
  v51 := Tryd.zeroValue114
  t160 := Tryd.underlying130
  a160 := Tryd.isAgg130
  z160 := Tryd.sizeOf130
  v160 := Tryd.zeroValue130
  t162 := Tryd.underlying122
  a162 := Tryd.isAgg122
  z162 := Tryd.sizeOf122
  v162 := Tryd.zeroValue122
  t203 := Tryd.underlying120
  a203 := Tryd.isAgg120
  z203 := Tryd.sizeOf120
  v203 := Tryd.zeroValue120
  t206 := Tryd.underlying146
  a206 := Tryd.isAgg146
  z206 := Tryd.sizeOf146
  v206 := Tryd.zeroValue146
  t208 := Tryd.underlying148
  a208 := Tryd.isAgg148
  z208 := Tryd.sizeOf148
  v208 := Tryd.zeroValue148
  g13 := by kernel_rfl }
def Tryd.lays204_ren : Go.Shelf.Ren := ⟨fun | 204 => 61 | 262 => 80 | 313 => 94 | 274 => 98 | 275 => 99 | n => n, fun | 21 => 21 | 4 => 4 | 3 => 3 | 162 => 122 | 203 => 120 | 160 => 130 | 46 => 97 | 0 => 0 | 208 => 148 | 51 => 114 | 206 => 146 | n => n, fun | 13 => 1 | n => n⟩
def Tryd.lays200_ren : Go.Shelf.Ren := ⟨fun | 200 => 81 | 261 => 95 | 311 => 100 | 312 => 101 | n => n, fun | 21 => 21 | 4 => 4 | 51 => 114 | 5 => 5 | 119 => 123 | 0 => 0 | 141 => 125 | 196 => 136 | 193 => 133 | 3 => 3 | 198 => 139 | 49 => 137 | 194 => 134 | 201 => 142 | 226 => 149 | 46 => 97 | 227 => 150 | n => n, fun | 7 => 2 | 8 => 3 | n => n⟩
theorem Tryd.lays200 : Go.Proofs.Lays.n200 Tryd.prog Tryd.lays200_ren := {
  mixed := by kernel_rfl
  f200 := Tryd.func81.trans (congrArg some (by kernel_rfl))
  f261 := Tryd.func95.trans (congrArg some (by kernel_rfl))
  f311 := Tryd.func100.trans (congrArg some (by kernel_rfl))
  f312 := Tryd.func101.trans (congrArg some (by kernel_rfl))
  t0 := Tryd.underlying0
  a0 := Tryd.isAgg0
  z0 := Tryd.sizeOf0
  v0 := Tryd.zeroValue0
  t3 := Tryd.underlying3
  a3 := Tryd.isAgg3
  z3 := Tryd.sizeOf3
  v3 := Tryd.zeroValue3
  t4 := Tryd.underlying4
  a4 := Tryd.isAgg4
  z4 := Tryd.sizeOf4
  v4 := Tryd.zeroValue4
  t5 := Tryd.underlying5
  a5 := Tryd.isAgg5
  z5 := Tryd.sizeOf5
  v5 := Tryd.zeroValue5
  t21 := Tryd.underlying21
  a21 := Tryd.isAgg21
  z21 := Tryd.sizeOf21
  v21 := Tryd.zeroValue21
  t46 := Tryd.underlying97
  a46 := Tryd.isAgg97
  z46 := Tryd.sizeOf97
  v46 := Tryd.zeroValue97
  t49 := Tryd.underlying137
  a49 := Tryd.isAgg137
  z49 := Tryd.sizeOf137
  v49 := Tryd.zeroValue137
  t51 := Tryd.underlying114
  a51 := Tryd.isAgg114
  z51 := Tryd.sizeOf114
  v51 := Tryd.zeroValue114
  t119 := Tryd.underlying123
  a119 := Tryd.isAgg123
  z119 := Tryd.sizeOf123
  t141 := Tryd.underlying125
  a141 := Tryd.isAgg125
  z141 := Tryd.sizeOf125
  v141 := Tryd.zeroValue125
  t193 := Tryd.underlying133
  a193 := Tryd.isAgg133
  z193 := Tryd.sizeOf133
  v193 := Tryd.zeroValue133
  t194 := Tryd.underlying134
  a194 := Tryd.isAgg134
  z194 := Tryd.sizeOf134
  v194 := Tryd.zeroValue134
  t196 := Tryd.underlying136
  a196 := Tryd.isAgg136
  z196 := Tryd.sizeOf136
  v196 := Tryd.zeroValue136
  t198 := Tryd.underlying139
  a198 := Tryd.isAgg139
  z198 := Tryd.sizeOf139
  v198 := Tryd.zeroValue139
  t201 := Tryd.underlying142
  a201 := Tryd.isAgg142
  z201 := Tryd.sizeOf142
  v201 := Tryd.zeroValue142
  t226 := Tryd.underlying149
  a226 := Tryd.isAgg149
  z226 := Tryd.sizeOf149
  v226 := Tryd.zeroValue149
  t227 := Tryd.underlying150
  a227 := Tryd.isAgg150
  z227 := Tryd.sizeOf150
  v227 := Tryd.zeroValue150
  g7 := by kernel_rfl
  g8 := by kernel_rfl }
def Tryd.lays197_ren : Go.Shelf.Ren := ⟨fun | 197 => 77 | 260 => 93 | n => n, fun | 9 => 9 | 21 => 21 | 3 => 3 | 4 => 4 | 5 => 5 | 105 => 108 | 119 => 123 | 0 => 0 | 46 => 97 | 139 => 129 | 138 => 128 | n => n, fun | 3 => 6 | 4 => 7 | n => n⟩
def Tryd.lays264_ren : Go.Shelf.Ren := ⟨fun | 264 => 90 | n => n, fun | 53 => 117 | 46 => 97 | n => n, fun | n => n⟩
def Tryd.lays212_ren : Go.Shelf.Ren := ⟨fun | 212 => 69 | 263 => 89 | 264 => 90 | n => n, fun | 46 => 97 | 51 => 114 | 146 => 115 | 53 => 117 | 148 => 118 | n => n, fun | n => n⟩
def Tryd.lays105_ren : Go.Shelf.Ren := ⟨fun | 105 => 47 | 212 => 69 | 99 => 70 | 165 => 37 | 166 => 57 | 170 => 71 | 169 => 58 | 263 => 89 | 264 => 90 | 206 => 91 | 240 => 49 | 241 => 50 | 276 => 72 | 277 => 73 | n => n, fun | 9 => 9 | 3 => 3 | 4 => 4 | 20 => 20 | 0 => 0 | 46 => 97 | 109 => 98 | 5 => 5 | 72 => 70 | 76 => 84 | 51 => 114 | 146 => 115 | 53 => 117 | 148 => 118 | 70 => 68 | 37 => 59 | 75 => 83 | 127 => 107 | 164 => 101 | 80 => 55 | n => n, fun | n => n⟩
theorem Tryd.lays105 : Go.Proofs.Lays.n105 Tryd.prog Tryd.lays105_ren := {
  mixed := by kernel_rfl
  f99 := Tryd.func70.trans (congrArg some (by kernel_rfl))
  f105 := Tryd.func47.trans (congrArg some (by kernel_rfl))
  f165 := Tryd.func37.trans (congrArg some (by kernel_rfl))
  f166 := Tryd.func57.trans (congrArg some (by kernel_rfl))
  f169 := Tryd.func58.trans (congrArg some (by kernel_rfl))
  f170 := Tryd.func71.trans (congrArg some (by kernel_rfl))
  f206 := Tryd.func91.trans (congrArg some (by kernel_rfl))
  f212 := Tryd.func69.trans (congrArg some (by kernel_rfl))
  f240 := Tryd.func49.trans (congrArg some (by kernel_rfl))
  f241 := Tryd.func50.trans (congrArg some (by kernel_rfl))
  f263 := Tryd.func89.trans (congrArg some (by kernel_rfl))
  f264 := Tryd.func90.trans (congrArg some (by kernel_rfl))
  f276 := Tryd.func72.trans (congrArg some (by kernel_rfl))
  f277 := Tryd.func73.trans (congrArg some (by kernel_rfl))
  t0 := Tryd.underlying0
  a0 := Tryd.isAgg0
  z0 := Tryd.sizeOf0
  v0 := Tryd.zeroValue0
  t3 := Tryd.underlying3
  a3 := Tryd.isAgg3
  z3 := Tryd.sizeOf3
  v3 := Tryd.zeroValue3
  t4 := Tryd.underlying4
  a4 := Tryd.isAgg4
  z4 := Tryd.sizeOf4
  v4 := Tryd.zeroValue4
  t5 := Tryd.underlying5
  a5 := Tryd.isAgg5
  z5 := Tryd.sizeOf5
  v5 := Tryd.zeroValue5
  t9 := Tryd.underlying9
  a9 := Tryd.isAgg9
  z9 := Tryd.sizeOf9
  v9 := Tryd.zeroValue9
  t20 := Tryd.underlying20
  a20 := Tryd.isAgg20
  z20 := Tryd.sizeOf20
  v20 := Tryd.zeroValue20
  t37 := Tryd.underlying59
  a37 := Tryd.isAgg59
  z37 := Tryd.sizeOf59
  v37 := Tryd.zeroValue59
  t46 := Tryd.underlying97
  a46 := Tryd.isAgg97
  z46 := Tryd.sizeOf97
  v46 := Tryd.zeroValue97
  t51 := Tryd.underlying114
  a51 := Tryd.isAgg114
  z51 := Tryd.sizeOf114
  v51 := Tryd.zeroValue114
  t53 := Tryd.underlying117
  a53 := Tryd.isAgg117
  z53 := Tryd.sizeOf117
  v53 := Tryd.zeroValue117
  t70 := Tryd.underlying68
  a70 := Tryd.isAgg68
  z70 := Tryd.sizeOf68
  v70 := Tryd.zeroValue68
  t72 := Tryd.underlying70
  a72 := Tryd.isAgg70
  z72 := Tryd.sizeOf70
  v72 := Tryd.zeroValue70
  t75 := Tryd.underlying83
  a75 := Tryd.isAgg83
  z75 := Tryd.sizeOf83
  v75 := Tryd.zeroValue83
  t76 := Tryd.underlying84
  a76 := Tryd.isAgg84
  z76 := Tryd.sizeOf84
  v76 := Tryd.zeroValue84
  t109 := Tryd.underlying98
  a109 := Tryd.isAgg98
  z109 := Tryd.sizeOf98
  v109 := Tryd.zeroValue98
  t127 := Tryd.underlying107
  a127 := Tryd.isAgg107
  z127 := Tryd.sizeOf107
  v127 := Tryd.zeroValue107
  t146 := Tryd.underlying115
  a146 := Tryd.isAgg115
  z146 := Tryd.sizeOf115
  v146 := Tryd.zeroValue115
  t148 := Tryd.underlying118
  a148 := Tryd.isAgg118
  z148 := Tryd.sizeOf118
  v148 := Tryd.zeroValue118
  t164 := Tryd.underlying101
  a164 := Tryd.isAgg101
  z164 := Tryd.sizeOf101
  v164 := Tryd.zeroValue101 }
theorem Tryd.Builder_Extra_105 : Builder.Extra Tryd.prog Tryd.lays105_ren := {
  sizeBuilder := by kernel_rfl
  liesBuilder := by kernel_rfl
  t5 := Tryd.underlying5
  a5 := Tryd.isAgg5
  z5 := Tryd.sizeOf5
  v5 := Tryd.zeroValue5
  infoByte := by kernel_rfl
  cellsByte := by kernel_rfl
  sizeByte := by kernel_rfl
  neB5 := by decide }
open Go.RowKit Go.Lib in
theorem Tryd.strings_Repeat (s : ByteArray) (c : Nat) (w : World) (hc : c ≤ 9223372036854775807) (hlen : s.size * c ≤ 140737488355328) :
    Calls Tryd.prog 47 #[.string s, .int .i64 c] w fun e w' => e = .returned (.string ⟨(Lib.repeatL s.data.toList c).toArray⟩) ∧ Below w.heap.size w w' := Any.strings_Repeat Tryd.lays105 Tryd.Builder_Extra_105 s c w hc hlen
def Tryd.lays260_ren : Go.Shelf.Ren := ⟨fun | 260 => 93 | n => n, fun | 9 => 9 | 21 => 21 | 3 => 3 | 4 => 4 | 5 => 5 | 119 => 123 | 0 => 0 | 46 => 97 | 139 => 129 | 138 => 128 | n => n, fun | 3 => 6 | 4 => 7 | n => n⟩
def Tryd.lays311_ren : Go.Shelf.Ren := ⟨fun | 311 => 100 | n => n, fun | 193 => 133 | 49 => 137 | 4 => 4 | 3 => 3 | 0 => 0 | 226 => 149 | 198 => 139 | 46 => 97 | n => n, fun | n => n⟩
def Tryd.lays261_ren : Go.Shelf.Ren := ⟨fun | 261 => 95 | 311 => 100 | 312 => 101 | n => n, fun | 141 => 125 | 21 => 21 | 4 => 4 | 0 => 0 | 196 => 136 | 193 => 133 | 3 => 3 | 51 => 114 | 198 => 139 | 49 => 137 | 194 => 134 | 201 => 142 | 226 => 149 | 46 => 97 | 227 => 150 | n => n, fun | n => n⟩
open Go.RowKit Go.Lib in
theorem Tryd.unicode_IsSpace_any (r : Int) (w : World) (hlo : -2147483648 ≤ r) (hhi : r ≤ 2147483647) (hW : Lib.WhiteTab 5 w) :
    Calls Tryd.prog 83 #[.int .i32 r] w fun e w' => e = .returned (.bool (Lib.isSpaceZ r)) ∧ Below w.heap.size w w' := Any.unicode_IsSpace_any Tryd.lays199 r w hlo hhi hW
def Tryd.lays274_ren : Go.Shelf.Ren := ⟨fun | 274 => 98 | n => n, fun | 21 => 21 | 162 => 122 | 160 => 130 | 3 => 3 | 4 => 4 | 46 => 97 | 0 => 0 | 208 => 148 | 51 => 114 | 206 => 146 | n => n, fun | n => n⟩
def Tryd.lays275_ren : Go.Shelf.Ren := ⟨fun | 275 => 99 | n => n, fun | 3 => 3 | 21 => 21 | 160 => 130 | 0 => 0 | 208 => 148 | 206 => 146 | 4 => 4 | 51 => 114 | n => n, fun | n => n⟩
def Tryd.lays313_ren : Go.Shelf.Ren := ⟨fun | 313 => 94 | 274 => 98 | 275 => 99 | n => n, fun | 3 => 3 | 21 => 21 | 162 => 122 | 4 => 4 | 160 => 130 | 46 => 97 | 0 => 0 | 208 => 148 | 51 => 114 | 206 => 146 | n => n, fun | n => n⟩
def Tryd.lays262_ren : Go.Shelf.Ren := ⟨fun | 262 => 80 | 313 => 94 | 274 => 98 | 275 => 99 | n => n, fun | 3 => 3 | 21 => 21 | 162 => 122 | 203 => 120 | 4 => 4 | 160 => 130 | 46 => 97 | 0 => 0 | 208 => 148 | 51 => 114 | 206 => 146 | n => n, fun | 13 => 1 | n => n⟩
open Go.RowKit Go.Lib in
theorem Tryd.unicode_ToUpper_laid (r : Int) (w : World) (hV : CaseVar 1 caseA w) :
    Calls Tryd.prog 64 #[.int .i32 r] w fun e w' => e = .returned (.int .i32 (toUpperU r)) ∧ ∃ q, w' = w.drewN q := Any.unicode_ToUpper_laid Tryd.lays203 r w hV
def Tryd.lays270_ren : Go.Shelf.Ren := ⟨fun | 270 => 79 | n => n, fun | 70 => 68 | 3 => 3 | 0 => 0 | 72 => 70 | 37 => 59 | 5 => 5 | n => n, fun | n => n⟩
theorem Tryd.lays270 : Go.Proofs.Lays.n270 Tryd.prog Tryd.lays270_ren := {
  mixed := by kernel_rfl
  f270 := Tryd.func79.trans (congrArg some (by kernel_rfl))
  t0 := Tryd.underlying0
  a0 := Tryd.isAgg0
  z0 := Tryd.sizeOf0
  v0 := Tryd.zeroValue0
  t3 := Tryd.underlying3
  a3 := Tryd.isAgg3
  z3 := Tryd.sizeOf3
  v3 := Tryd.zeroValue3
  t37 := Tryd.underlying59
  a37 := Tryd.isAgg59
  z37 := Tryd.sizeOf59
  v37 := Tryd.zeroValue59
  t70 := Tryd.underlying68
  a70 := Tryd.isAgg68
  z70 := Tryd.sizeOf68
  v70 := Tryd.zeroValue68
  t72 := Tryd.underlying70
  a72 := Tryd.isAgg70
  z72 := Tryd.sizeOf70
  v72 := Tryd.zeroValue70 }
open Go.RowKit Go.Lib in
theorem Tryd.Builder_Cap_cell (b : Nat) (p : Option Addr) (n cap : Nat) (w : World) (c1 : w.cell? ⟨b, 1, none⟩ = some (.slice p n cap)) :
    Calls Tryd.prog 79 #[.pointer (some ⟨b, 0, none⟩)] w fun e w' => e = .returned (.int .i64 cap) ∧ w' = w := Any.Builder_Cap_cell Tryd.lays270 b p n cap w c1
def Tryd.lays230_ren : Go.Shelf.Ren := ⟨fun | 230 => 60 | 197 => 77 | 118 => 78 | 165 => 37 | 166 => 57 | 168 => 51 | 270 => 79 | 167 => 59 | 169 => 58 | 260 => 93 | 240 => 49 | 241 => 50 | 242 => 74 | 276 => 72 | 277 => 73 | 278 => 92 | n => n, fun | 107 => 94 | 9 => 9 | 72 => 70 | 0 => 0 | 4 => 4 | 3 => 3 | 21 => 21 | 105 => 108 | 76 => 84 | 5 => 5 | 75 => 83 | 70 => 68 | 20 => 20 | 37 => 59 | 127 => 107 | 119 => 123 | 46 => 97 | 139 => 129 | 138 => 128 | 164 => 101 | 51 => 114 | 80 => 55 | n => n, fun | 3 => 6 | 4 => 7 | n => n⟩
theorem Tryd.lays230 : Go.Proofs.Lays.n230 Tryd.prog Tryd.lays230_ren := {
  mixed := by kernel_rfl
  f118 := Tryd.func78.trans (congrArg some (by kernel_rfl))
  f165 := Tryd.func37.trans (congrArg some (by kernel_rfl))
  f166 := Tryd.func57.trans (congrArg some (by kernel_rfl))
  f167 := Tryd.func59.trans (congrArg some (by kernel_rfl))
  f168 := Tryd.func51.trans (congrArg some (by kernel_rfl))
  f169 := Tryd.func58.trans (congrArg some (by kernel_rfl))
  f197 := Tryd.func77.trans (congrArg some (by kernel_rfl))
  f230 := Tryd.func60.trans (congrArg some (by kernel_rfl))
  f240 := Tryd.func49.trans (congrArg some (by kernel_rfl))
  f241 := Tryd.func50.trans (congrArg some (by kernel_rfl))
  f242 := Tryd.func74.trans (congrArg some (by kernel_rfl))
  f260 := Tryd.func93.trans (congrArg some (by kernel_rfl))
  f270 := Tryd.func79.trans (congrArg some (by kernel_rfl))
  f276 := Tryd.func72.trans (congrArg some (by kernel_rfl))
  f277 := Tryd.func73.trans (congrArg some (by kernel_rfl))
  f278 := Tryd.func92.trans (congrArg some (by kernel_rfl))
  t0 := Tryd.underlying0
  a0 := Tryd.isAgg0
  z0 := Tryd.sizeOf0
  v0 := Tryd.zeroValue0
  t3 := Tryd.underlying3
  a3 := Tryd.isAgg3
  z3 := Tryd.sizeOf3
  v3 := Tryd.zeroValue3
  t4 := Tryd.underlying4
  a4 := Tryd.isAgg4
  z4 := Tryd.sizeOf4
  v4 := Tryd.zeroValue4
  t5 := Tryd.underlying5
  a5 := Tryd.isAgg5
  z5 := Tryd.sizeOf5
  v5 := Tryd.zeroValue5
  t9 := Tryd.underlying9
  a9 := Tryd.isAgg9
  z9 := Tryd.sizeOf9
  v9 := Tryd.zeroValue9
  t20 := Tryd.underlying20
  a20 := Tryd.isAgg20
  z20 := Tryd.sizeOf20
  v20 := Tryd.zeroValue20
  t21 := Tryd.underlying21
  a21 := Tryd.isAgg21
  z21 := Tryd.sizeOf21
  v21 := Tryd.zeroValue21
  t37 := Tryd.underlying59
  a37 := Tryd.isAgg59
  z37 := Tryd.sizeOf59
  v37 := Tryd.zeroValue59
  t46 := Tryd.underlying97
  a46 := Tryd.isAgg97
  z46 := Tryd.sizeOf97
  v46 := Tryd.zeroValue97
  t51 := Tryd.underlying114
  a51 := Tryd.isAgg114
  z51 := Tryd.sizeOf114
  v51 := Tryd.zeroValue114
  t70 := Tryd.underlying68
  a70 := Tryd.isAgg68
  z70 := Tryd.sizeOf68
  v70 := Tryd.zeroValue68
  t72 := Tryd.underlying70
  a72 := Tryd.isAgg70
  z72 := Tryd.sizeOf70
  v72 := Tryd.zeroValue70
  t75 := Tryd.underlying83
  a75 := Tryd.isAgg83
  z75 := Tryd.sizeOf83
  v75 := Tryd.zeroValue83
  t76 := Tryd.underlying84
  a76 := Tryd.isAgg84
  z76 := Tryd.sizeOf84
  v76 := Tryd.zeroValue84
  t105 := Tryd.underlying108
  a105 := Tryd.isAgg108
  z105 := Tryd.sizeOf108
  v105 := Tryd.zeroValue108
  t107 := Tryd.underlying94
  a107 := Tryd.isAgg94
  z107 := Tryd.sizeOf94
  v107 := Tryd.zeroValue94
  t119 := Tryd.underlying123
  a119 := Tryd.isAgg123
  z119 := Tryd.sizeOf123
  t127 := Tryd.underlying107
  a127 := Tryd.isAgg107
  z127 := Tryd.sizeOf107
  v127 := Tryd.zeroValue107
  t138 := Tryd.underlying128
  a138 := Tryd.isAgg128
  z138 := Tryd.sizeOf128
  v138 := Tryd.zeroValue128
  t139 := Tryd.underlying129
  a139 := Tryd.isAgg129
  z139 := Tryd.sizeOf129
  v139 := Tryd.zeroValue129
  t164 := Tryd.underlying101
  a164 := Tryd.isAgg101
  z164 := Tryd.sizeOf101
  v164 := Tryd.zeroValue101
  g3 := by kernel_rfl
  g4 := by kernel_rfl }
theorem Tryd.Builder_Extra_230 : Builder.Extra Tryd.prog Tryd.lays230_ren := {
  sizeBuilder := by kernel_rfl
  liesBuilder := by kernel_rfl
  t5 := Tryd.underlying5
  a5 := Tryd.isAgg5
  z5 := Tryd.sizeOf5
  v5 := Tryd.zeroValue5
  infoByte := by kernel_rfl
  cellsByte := by kernel_rfl
  sizeByte := by kernel_rfl
  neB5 := by decide }
open Go.RowKit Go.Lib in
theorem Tryd.strings_ToLower_any (s : ByteArray) (w : World) (hs : s.size < 35184372088832) (hV : CaseVar 1 caseA w) (hT : Lib.Utf8Tabs 6 7 w) :
    Calls Tryd.prog 41 #[.string s] w fun e w' => e = .returned (.string ⟨(Lib.toLowerD s.data.toList).toArray⟩) ∧ Below w.heap.size w w' := Any.strings_ToLower_any Tryd.lays159 Tryd.Builder_Extra_159 s w hs hV hT
def Tryd.lays312_ren : Go.Shelf.Ren := ⟨fun | 312 => 101 | n => n, fun | 194 => 134 | 51 => 114 | 4 => 4 | 3 => 3 | 0 => 0 | 227 => 150 | 201 => 142 | 46 => 97 | n => n, fun | n => n⟩
open Go.RowKit Go.Lib in
theorem Tryd.unicode_IsLetter_all (r : Int) (w : World) (hlo : -2147483648 ≤ r) (hhi : r ≤ 2147483647) (htab : Lib.TabIs Tryd.prog w "unicode.properties" .u8 Lib.propertiesTab) (hV : RVar 3 letterT w) :
    Calls Tryd.prog 81 #[.int .i32 r] w fun e w' => e = .returned (.bool (isLetterU r)) ∧ Below w.heap.size w w' := Any.unicode_IsLetter_all Tryd.lays200 (by kernel_rfl) r w hlo hhi htab hV
open Go.RowKit Go.Lib in
theorem Tryd.unicode_IsDigit_all (r : Int) (w : World) (hlo : -2147483648 ≤ r) (hhi : r ≤ 2147483647) (hV : RVar 4 digitT w) :
    Calls Tryd.prog 82 #[.int .i32 r] w fun e w' => e = .returned (.bool (isDigitU r)) ∧ Below w.heap.size w w' := Any.unicode_IsDigit_all Tryd.lays198 r w hlo hhi hV
end Go.Proofs
