/-
  Laid by the kit's own tool: contracts of Go's library at this translation. Conditions: each theorem's own.
-/
import Derived.Shelf.Strings.Builder1
import Derived.Shelf.Strings.Builder2
import Derived.Shelf.Strings.OnBuilder
import Derived.Shelf.Strings.TrimSpace
import Derived.Shelf.Small.Utf8
import Derived.Shelf.GgClosure.StringsIndexFunc
import Derived.Shelf.GgClosure.StringsTrimFunc
import Derived.Shelf.Strings.Prefix
import Derived.Shelf.Unicode.Latin
import Derived.Shelf.Unicode.Props
import Derived.Shelf.LaysM
import Derived.Shelf.Unicode.PropsLaid
import Derived.Shelf.Unicode.Decode
import Derived.Shelf.Unicode.DecodeSlow
import Derived.Shelf.Unicode.DecodeAny
import Derived.Shelf.Unicode.Is16White
import Derived.Shelf.Unicode.IsSpaceAny
import Derived.Shelf.Unicode.DecodeLast
import Derived.Shelf.Unicode.ValidAny
import Derived.Shelf.Unicode.CaseLookup
import Derived.Shelf.Unicode.CaseConvert
import Derived.Shelf.Unicode.CaseTo
import Derived.Shelf.Unicode.CaseLaid
import Derived.Shelf.Unicode.Is16Any
import Derived.Shelf.Unicode.Is32Any
import Derived.Shelf.Unicode.ExclAny
import Derived.Shelf.Unicode.PredsAny
import Derived.Shelf.Strings.FuncGrows
import Derived.Shelf.Unicode.PredsPay
import Derived.Test.YtjioibigijflpaaDoorProg
namespace Go.Proofs
open Go.Shelf
def Tryd.lays169_ren : Go.Shelf.Ren := ⟨fun | 169 => 61 | n => n, fun | 70 => 122 | 9 => 9 | 0 => 0 | 72 => 124 | 37 => 30 | 127 => 151 | 3 => 3 | 5 => 5 | n => n, fun | n => n⟩
theorem Tryd.lays169 : Go.Proofs.Lays.n169 Tryd.prog Tryd.lays169_ren := {
  mixed := by kernel_rfl
  f169 := Tryd.func61.trans (congrArg some (by kernel_rfl))
  t0 := Tryd.underlying0
  a0 := Tryd.isAgg0
  z0 := Tryd.sizeOf0
  v0 := Tryd.zeroValue0
  t3 := Tryd.underlying3
  a3 := Tryd.isAgg3
  z3 := Tryd.sizeOf3
  v3 := Tryd.zeroValue3
  t9 := Tryd.underlying9
  a9 := Tryd.isAgg9
  z9 := Tryd.sizeOf9
  v9 := Tryd.zeroValue9
  t37 := Tryd.underlying30
  a37 := Tryd.isAgg30
  z37 := Tryd.sizeOf30
  v37 := Tryd.zeroValue30
  t70 := Tryd.underlying122
  a70 := Tryd.isAgg122
  z70 := Tryd.sizeOf122
  v70 := Tryd.zeroValue122
  t72 := Tryd.underlying124
  a72 := Tryd.isAgg124
  z72 := Tryd.sizeOf124
  v72 := Tryd.zeroValue124
  t127 := Tryd.underlying151
  a127 := Tryd.isAgg151
  z127 := Tryd.sizeOf151
  v127 := Tryd.zeroValue151 }
theorem Tryd.Builder_Extra_169 : Builder.Extra Tryd.prog Tryd.lays169_ren := {
  sizeBuilder := by kernel_rfl
  liesBuilder := by kernel_rfl
  t5 := Tryd.underlying5
  a5 := Tryd.isAgg5
  z5 := Tryd.sizeOf5
  v5 := Tryd.zeroValue5
  infoByte := by kernel_rfl
  cellsByte := by kernel_rfl
  sizeByte := by kernel_rfl
  neB5 := by decide }
open Go.RowKit in
theorem Tryd.Builder_String (B b : Nat) (l : List UInt8) (w : World) (h : Lib.IsBuilder 124 5 B b (Lib.byteCells l) w) (h0 : l ≠ []) :
    Calls Tryd.prog 61 #[.pointer (some ⟨b, 0, none⟩)] w fun e w' => e = .returned (.string ⟨l.toArray⟩) ∧ Below B w w' := Any.Builder_String Tryd.lays169 Tryd.Builder_Extra_169 B b l w h h0
open Go.RowKit in
theorem Tryd.Builder_String_empty (B b : Nat) (w : World) (h : Lib.IsBuilder 124 5 B b [] w) (hBw : B ≤ w.heap.size) :
    Calls Tryd.prog 61 #[.pointer (some ⟨b, 0, none⟩)] w fun e w' => e = .returned (.string ⟨#[]⟩) ∧ Below B w w' := Any.Builder_String_empty Tryd.lays169 Tryd.Builder_Extra_169 B b w h hBw
open Go.RowKit in
theorem Tryd.Builder_String_any (B b : Nat) (l : List UInt8) (w : World) (h : Lib.IsBuilder 124 5 B b (Lib.byteCells l) w) (hBw : B ≤ w.heap.size) :
    Calls Tryd.prog 61 #[.pointer (some ⟨b, 0, none⟩)] w fun e w' => e = .returned (.string ⟨l.toArray⟩) ∧ Below B w w' := Any.Builder_String_any Tryd.lays169 Tryd.Builder_Extra_169 B b l w h hBw
def Tryd.lays241_ren : Go.Shelf.Ren := ⟨fun | 241 => 82 | 277 => 92 | n => n, fun | 70 => 122 | 3 => 3 | 0 => 0 | 72 => 124 | 37 => 30 | 5 => 5 | n => n, fun | n => n⟩
theorem Tryd.lays241 : Go.Proofs.Lays.n241 Tryd.prog Tryd.lays241_ren := {
  mixed := by kernel_rfl
  f241 := Tryd.func82.trans (congrArg some (by kernel_rfl))
  f277 := Tryd.func92.trans (congrArg some (by kernel_rfl))
  t0 := Tryd.underlying0
  a0 := Tryd.isAgg0
  z0 := Tryd.sizeOf0
  v0 := Tryd.zeroValue0
  t3 := Tryd.underlying3
  a3 := Tryd.isAgg3
  z3 := Tryd.sizeOf3
  v3 := Tryd.zeroValue3
  t37 := Tryd.underlying30
  a37 := Tryd.isAgg30
  z37 := Tryd.sizeOf30
  v37 := Tryd.zeroValue30
  t70 := Tryd.underlying122
  a70 := Tryd.isAgg122
  z70 := Tryd.sizeOf122
  v70 := Tryd.zeroValue122
  t72 := Tryd.underlying124
  a72 := Tryd.isAgg124
  z72 := Tryd.sizeOf124
  v72 := Tryd.zeroValue124 }
theorem Tryd.Builder_Extra_241 : Builder.Extra Tryd.prog Tryd.lays241_ren := {
  sizeBuilder := by kernel_rfl
  liesBuilder := by kernel_rfl
  t5 := Tryd.underlying5
  a5 := Tryd.isAgg5
  z5 := Tryd.sizeOf5
  v5 := Tryd.zeroValue5
  infoByte := by kernel_rfl
  cellsByte := by kernel_rfl
  sizeByte := by kernel_rfl
  neB5 := by decide }
open Go.RowKit in
theorem Tryd.Builder_grow_fresh (B b n : Nat) (w : World) (hB : B ≤ b) (hbk : w.heap[b]? = some (.cells #[.pointer (some ⟨b, 0, none⟩), .slice none 0 0] 124 (0, 0))) (hBw : B ≤ w.heap.size) (hn : n ≤ 281474976710656) :
    Calls Tryd.prog 82 #[.pointer (some ⟨b, 0, none⟩), .int .i64 n] w fun e w' => e = .returned (.tuple #[]) ∧ (Lib.BuilderAt 124 5 B b (.pointer (some ⟨b, 0, none⟩)) [] w' ∧ Below B w w') := Any.Builder_grow_fresh Tryd.lays241 Tryd.Builder_Extra_241 B b n w hB hbk hBw hn
def Tryd.lays165_ren : Go.Shelf.Ren := ⟨fun | 165 => 58 | 240 => 81 | 241 => 82 | 276 => 91 | 277 => 92 | n => n, fun | 70 => 122 | 3 => 3 | 0 => 0 | 4 => 4 | 9 => 9 | 20 => 20 | 72 => 124 | 37 => 30 | 164 => 164 | 5 => 5 | n => n, fun | n => n⟩
theorem Tryd.lays165 : Go.Proofs.Lays.n165 Tryd.prog Tryd.lays165_ren := {
  mixed := by kernel_rfl
  f165 := Tryd.func58.trans (congrArg some (by kernel_rfl))
  f240 := Tryd.func81.trans (congrArg some (by kernel_rfl))
  f241 := Tryd.func82.trans (congrArg some (by kernel_rfl))
  f276 := Tryd.func91.trans (congrArg some (by kernel_rfl))
  f277 := Tryd.func92.trans (congrArg some (by kernel_rfl))
  t0 := Tryd.underlying0
  a0 := Tryd.isAgg0
  z0 := Tryd.sizeOf0
  v0 := Tryd.zeroValue0
  t3 := Tryd.underlying3
  a3 := Tryd.isAgg3
  z3 := Tryd.sizeOf3
  v3 := Tryd.zeroValue3
  t4 := Tryd.underlying4
  a4 := Tryd.isAgg4
  z4 := Tryd.sizeOf4
  v4 := Tryd.zeroValue4
  t9 := Tryd.underlying9
  a9 := Tryd.isAgg9
  z9 := Tryd.sizeOf9
  v9 := Tryd.zeroValue9
  t20 := Tryd.underlying20
  a20 := Tryd.isAgg20
  z20 := Tryd.sizeOf20
  v20 := Tryd.zeroValue20
  t37 := Tryd.underlying30
  a37 := Tryd.isAgg30
  z37 := Tryd.sizeOf30
  v37 := Tryd.zeroValue30
  t70 := Tryd.underlying122
  a70 := Tryd.isAgg122
  z70 := Tryd.sizeOf122
  v70 := Tryd.zeroValue122
  t72 := Tryd.underlying124
  a72 := Tryd.isAgg124
  z72 := Tryd.sizeOf124
  v72 := Tryd.zeroValue124
  t164 := Tryd.underlying164
  a164 := Tryd.isAgg164
  z164 := Tryd.sizeOf164
  v164 := Tryd.zeroValue164 }
theorem Tryd.Builder_Extra_165 : Builder.Extra Tryd.prog Tryd.lays165_ren := {
  sizeBuilder := by kernel_rfl
  liesBuilder := by kernel_rfl
  t5 := Tryd.underlying5
  a5 := Tryd.isAgg5
  z5 := Tryd.sizeOf5
  v5 := Tryd.zeroValue5
  infoByte := by kernel_rfl
  cellsByte := by kernel_rfl
  sizeByte := by kernel_rfl
  neB5 := by decide }
open Go.RowKit in
theorem Tryd.Builder_Grow_fresh (B b n : Nat) (w : World) (hB : B ≤ b) (hbk : w.heap[b]? = some (.cells #[.pointer none, .slice none 0 0] 124 (0, 0))) (hBw : B ≤ w.heap.size) (hn : n ≤ 281474976710656) :
    Calls Tryd.prog 58 #[.pointer (some ⟨b, 0, none⟩), .int .i64 n] w fun e w' => e = .returned (.tuple #[]) ∧ (Lib.BuilderAt 124 5 B b (.pointer (some ⟨b, 0, none⟩)) [] w' ∧ Below B w w') := Any.Builder_Grow_fresh Tryd.lays165 Tryd.Builder_Extra_165 B b n w hB hbk hBw hn
def Tryd.lays159_ren : Go.Shelf.Ren := ⟨fun | 159 => 38 | 165 => 58 | 166 => 59 | 167 => 60 | 169 => 61 | 230 => 62 | 204 => 63 | 240 => 81 | 241 => 82 | 197 => 45 | 118 => 83 | 168 => 84 | 270 => 85 | 262 => 86 | 276 => 91 | 277 => 92 | 260 => 68 | 242 => 93 | 313 => 94 | 278 => 95 | 274 => 70 | 275 => 71 | n => n, fun | 9 => 9 | 4 => 4 | 3 => 3 | 5 => 5 | 72 => 124 | 0 => 0 | 76 => 126 | 75 => 87 | 107 => 107 | 70 => 122 | 20 => 20 | 37 => 30 | 127 => 151 | 21 => 21 | 105 => 104 | 164 => 164 | 162 => 140 | 203 => 168 | 119 => 75 | 46 => 79 | 139 => 78 | 138 => 77 | 51 => 80 | 160 => 138 | 208 => 161 | 206 => 159 | 80 => 129 | n => n, fun | 13 => 10 | 3 => 0 | 4 => 1 | n => n⟩
theorem Tryd.lays159 : Go.Proofs.Lays.n159 Tryd.prog Tryd.lays159_ren := {
  mixed := by kernel_rfl
  f118 := Tryd.func83.trans (congrArg some (by kernel_rfl))
  f159 := Tryd.func38.trans (congrArg some (by kernel_rfl))
  f165 := Tryd.func58.trans (congrArg some (by kernel_rfl))
  f166 := Tryd.func59.trans (congrArg some (by kernel_rfl))
  f167 := Tryd.func60.trans (congrArg some (by kernel_rfl))
  f168 := Tryd.func84.trans (congrArg some (by kernel_rfl))
  f169 := Tryd.func61.trans (congrArg some (by kernel_rfl))
  f197 := Tryd.func45.trans (congrArg some (by kernel_rfl))
  f204 := Tryd.func63.trans (congrArg some (by kernel_rfl))
  f230 := Tryd.func62.trans (congrArg some (by kernel_rfl))
  f240 := Tryd.func81.trans (congrArg some (by kernel_rfl))
  f241 := Tryd.func82.trans (congrArg some (by kernel_rfl))
  f242 := Tryd.func93.trans (congrArg some (by kernel_rfl))
  f260 := Tryd.func68.trans (congrArg some (by kernel_rfl))
  f262 := Tryd.func86.trans (congrArg some (by kernel_rfl))
  f270 := Tryd.func85.trans (congrArg some (by kernel_rfl))
  f274 := Tryd.func70.trans (congrArg some (by kernel_rfl))
  f275 := Tryd.func71.trans (congrArg some (by kernel_rfl))
  f276 := Tryd.func91.trans (congrArg some (by kernel_rfl))
  f277 := Tryd.func92.trans (congrArg some (by kernel_rfl))
  f278 := Tryd.func95.trans (congrArg some (by kernel_rfl))
  f313 := Tryd.func94.trans (congrArg some (by kernel_rfl))
  t0 := Tryd.underlying0
  a0 := Tryd.isAgg0
  z0 := Tryd.sizeOf0
  v0 := Tryd.zeroValue0
  t3 := Tryd.underlying3
  a3 := Tryd.isAgg3
  z3 := Tryd.sizeOf3
  v3 := Tryd.zeroValue3
  t4 := Tryd.underlying4
  a4 := Tryd.isAgg4
  z4 := Tryd.sizeOf4
  v4 := Tryd.zeroValue4
  t5 := Tryd.underlying5
  a5 := Tryd.isAgg5
  z5 := Tryd.sizeOf5
  v5 := Tryd.zeroValue5
  t9 := Tryd.underlying9
  a9 := Tryd.isAgg9
  z9 := Tryd.sizeOf9
  v9 := Tryd.zeroValue9
  t20 := Tryd.underlying20
  a20 := Tryd.isAgg20
  z20 := Tryd.sizeOf20
  v20 := Tryd.zeroValue20
  t21 := Tryd.underlying21
  a21 := Tryd.isAgg21
  z21 := Tryd.sizeOf21
  v21 := Tryd.zeroValue21
  t37 := Tryd.underlying30
  a37 := Tryd.isAgg30
  z37 := Tryd.sizeOf30
  v37 := Tryd.zeroValue30
  t46 := Tryd.underlying79
  a46 := Tryd.isAgg79
  z46 := Tryd.sizeOf79
  v46 := Tryd.zeroValue79
  t51 := Tryd.underlying80
  a51 := Tryd.isAgg80
  z51 := Tryd.sizeOf80
  v51 := Tryd.zeroValue80
  t70 := Tryd.underlying122
  a70 := Tryd.isAgg122
  z70 := Tryd.sizeOf122
  v70 := Tryd.zeroValue122
  t72 := Tryd.underlying124
  a72 := Tryd.isAgg124
  z72 := Tryd.sizeOf124
  v72 := Tryd.zeroValue124
  t75 := Tryd.underlying87
  a75 := Tryd.isAgg87
  z75 := Tryd.sizeOf87
  v75 := Tryd.zeroValue87
  t76 := Tryd.underlying126
  a76 := Tryd.isAgg126
  z76 := Tryd.sizeOf126
  v76 := Tryd.zeroValue126
  t105 := Tryd.underlying104
  a105 := Tryd.isAgg104
  z105 := Tryd.sizeOf104
  v105 := Tryd.zeroValue104
  t107 := Tryd.underlying107
  a107 := Tryd.isAgg107
  z107 := Tryd.sizeOf107
  v107 := Tryd.zeroValue107
  t119 := Tryd.underlying75
  a119 := Tryd.isAgg75
  z119 := Tryd.sizeOf75
  t127 := Tryd.underlying151
  a127 := Tryd.isAgg151
  z127 := Tryd.sizeOf151
  v127 := Tryd.zeroValue151
  t138 := Tryd.underlying77
  a138 := Tryd.isAgg77
  z138 := Tryd.sizeOf77
  v138 := Tryd.zeroValue77
  t139 := Tryd.underlying78
  a139 := Tryd.isAgg78
  z139 := Tryd.sizeOf78
  v139 := Tryd.zeroValue78
  t160 := Tryd.underlying138
  a160 := Tryd.isAgg138
  z160 := Tryd.sizeOf138
  v160 := Tryd.zeroValue138
  t162 := Tryd.underlying140
  a162 := Tryd.isAgg140
  z162 := Tryd.sizeOf140
  v162 := Tryd.zeroValue140
  t164 := Tryd.underlying164
  a164 := Tryd.isAgg164
  z164 := Tryd.sizeOf164
  v164 := Tryd.zeroValue164
  t203 := Tryd.underlying168
  a203 := Tryd.isAgg168
  z203 := Tryd.sizeOf168
  v203 := Tryd.zeroValue168
  t206 := Tryd.underlying159
  a206 := Tryd.isAgg159
  z206 := Tryd.sizeOf159
  v206 := Tryd.zeroValue159
  t208 := Tryd.underlying161
  a208 := Tryd.isAgg161
  z208 := Tryd.sizeOf161
  v208 := Tryd.zeroValue161
  g3 := by kernel_rfl
  g4 := by kernel_rfl
  g13 := by kernel_rfl }
theorem Tryd.Builder_Extra_159 : Builder.Extra Tryd.prog Tryd.lays159_ren := {
  sizeBuilder := by kernel_rfl
  liesBuilder := by kernel_rfl
  t5 := Tryd.underlying5
  a5 := Tryd.isAgg5
  z5 := Tryd.sizeOf5
  v5 := Tryd.zeroValue5
  infoByte := by kernel_rfl
  cellsByte := by kernel_rfl
  sizeByte := by kernel_rfl
  neB5 := by decide }
open Go.RowKit in
theorem Tryd.strings_ToLower_ascii (s : ByteArray) (w : World) (hs : s.size ≤ 140737488355328) (hascii : ∀ (j : Nat) (b : UInt8), s.data.toList[j]? = some b → b.toNat < 128) :
    Calls Tryd.prog 38 #[.string s] w fun e w' => e = .returned (.string ⟨(Lib.toLowerA s.data.toList).toArray⟩) ∧ Below w.heap.size w w' := Any.strings_ToLower_ascii Tryd.lays159 Tryd.Builder_Extra_159 s w hs hascii
def Tryd.lays163_ren : Go.Shelf.Ren := ⟨fun | 163 => 19 | 237 => 31 | 199 => 32 | 238 => 33 | 272 => 43 | 261 => 30 | 273 => 44 | 197 => 45 | 315 => 66 | 311 => 41 | 312 => 42 | 271 => 67 | 260 => 68 | 120 => 87 | n => n, fun | 9 => 9 | 37 => 30 | 3 => 3 | 0 => 0 | 5 => 5 | 4 => 4 | 40 => 67 | 119 => 75 | 21 => 21 | 51 => 80 | 141 => 82 | 105 => 104 | 196 => 95 | 193 => 92 | 198 => 98 | 49 => 96 | 194 => 93 | 201 => 101 | 226 => 131 | 46 => 79 | 227 => 132 | 139 => 78 | 138 => 77 | n => n, fun | 0 => 6 | 6 => 7 | 3 => 0 | 4 => 1 | n => n⟩
theorem Tryd.lays163 : Go.Proofs.Lays.n163 Tryd.prog Tryd.lays163_ren := {
  mixed := by kernel_rfl
  f120 := Tryd.func87.trans (congrArg some (by kernel_rfl))
  f163 := Tryd.func19.trans (congrArg some (by kernel_rfl))
  f197 := Tryd.func45.trans (congrArg some (by kernel_rfl))
  f199 := Tryd.func32.trans (congrArg some (by kernel_rfl))
  f237 := Tryd.func31.trans (congrArg some (by kernel_rfl))
  f238 := Tryd.func33.trans (congrArg some (by kernel_rfl))
  f260 := Tryd.func68.trans (congrArg some (by kernel_rfl))
  f261 := Tryd.func30.trans (congrArg some (by kernel_rfl))
  f271 := Tryd.func67.trans (congrArg some (by kernel_rfl))
  f272 := Tryd.func43.trans (congrArg some (by kernel_rfl))
  f273 := Tryd.func44.trans (congrArg some (by kernel_rfl))
  f311 := Tryd.func41.trans (congrArg some (by kernel_rfl))
  f312 := Tryd.func42.trans (congrArg some (by kernel_rfl))
  f315 := Tryd.func66.trans (congrArg some (by kernel_rfl))
  t0 := Tryd.underlying0
  a0 := Tryd.isAgg0
  z0 := Tryd.sizeOf0
  v0 := Tryd.zeroValue0
  t3 := Tryd.underlying3
  a3 := Tryd.isAgg3
  z3 := Tryd.sizeOf3
  v3 := Tryd.zeroValue3
  t4 := Tryd.underlying4
  a4 := Tryd.isAgg4
  z4 := Tryd.sizeOf4
  v4 := Tryd.zeroValue4
  t5 := Tryd.underlying5
  a5 := Tryd.isAgg5
  z5 := Tryd.sizeOf5
  v5 := Tryd.zeroValue5
  t9 := Tryd.underlying9
  a9 := Tryd.isAgg9
  z9 := Tryd.sizeOf9
  v9 := Tryd.zeroValue9
  t21 := Tryd.underlying21
  a21 := Tryd.isAgg21
  z21 := Tryd.sizeOf21
  v21 := Tryd.zeroValue21
  t37 := Tryd.underlying30
  a37 := Tryd.isAgg30
  z37 := Tryd.sizeOf30
  v37 := Tryd.zeroValue30
  t40 := Tryd.underlying67
  a40 := Tryd.isAgg67
  z40 := Tryd.sizeOf67
  v40 := Tryd.zeroValue67
  t46 := Tryd.underlying79
  a46 := Tryd.isAgg79
  z46 := Tryd.sizeOf79
  v46 := Tryd.zeroValue79
  t49 := Tryd.underlying96
  a49 := Tryd.isAgg96
  z49 := Tryd.sizeOf96
  v49 := Tryd.zeroValue96
  t51 := Tryd.underlying80
  a51 := Tryd.isAgg80
  z51 := Tryd.sizeOf80
  v51 := Tryd.zeroValue80
  t105 := Tryd.underlying104
  a105 := Tryd.isAgg104
  z105 := Tryd.sizeOf104
  v105 := Tryd.zeroValue104
  t119 := Tryd.underlying75
  a119 := Tryd.isAgg75
  z119 := Tryd.sizeOf75
  t138 := Tryd.underlying77
  a138 := Tryd.isAgg77
  z138 := Tryd.sizeOf77
  v138 := Tryd.zeroValue77
  t139 := Tryd.underlying78
  a139 := Tryd.isAgg78
  z139 := Tryd.sizeOf78
  v139 := Tryd.zeroValue78
  t141 := Tryd.underlying82
  a141 := Tryd.isAgg82
  z141 := Tryd.sizeOf82
  v141 := Tryd.zeroValue82
  t193 := Tryd.underlying92
  a193 := Tryd.isAgg92
  z193 := Tryd.sizeOf92
  v193 := Tryd.zeroValue92
  t194 := Tryd.underlying93
  a194 := Tryd.isAgg93
  z194 := Tryd.sizeOf93
  v194 := Tryd.zeroValue93
  t196 := Tryd.underlying95
  a196 := Tryd.isAgg95
  z196 := Tryd.sizeOf95
  v196 := Tryd.zeroValue95
  t198 := Tryd.underlying98
  a198 := Tryd.isAgg98
  z198 := Tryd.sizeOf98
  v198 := Tryd.zeroValue98
  t201 := Tryd.underlying101
  a201 := Tryd.isAgg101
  z201 := Tryd.sizeOf101
  v201 := Tryd.zeroValue101
  t226 := Tryd.underlying131
  a226 := Tryd.isAgg131
  z226 := Tryd.sizeOf131
  v226 := Tryd.zeroValue131
  t227 := Tryd.underlying132
  a227 := Tryd.isAgg132
  z227 := Tryd.sizeOf132
  v227 := Tryd.zeroValue132
  g0 := by kernel_rfl
  g3 := by kernel_rfl
  g4 := by kernel_rfl
  g6 := by kernel_rfl }
theorem Tryd.Space_Extra_163 : Space.Extra Tryd.prog Tryd.lays163_ren := {
  gNamed := by kernel_rfl }
open Go.RowKit in
theorem Tryd.strings_TrimSpace (s : ByteArray) (w : World) (hs : s.size ≤ 9223372036854775807) (hascii : ∀ (j : Nat) b, s.data.toList[j]? = some b → b.toNat < 128) (htab : Lib.TabIs Tryd.prog w "strings.asciiSpace" .u8 Lib.asciiSpaceTab) :
    Calls Tryd.prog 19 #[.string s] w fun e w' => e = .returned (.string ⟨(Lib.trimSpace s.data.toList).toArray⟩) ∧ w' = Lib.bytesWorld w 5 s := Any.strings_TrimSpace Tryd.lays163 Tryd.Space_Extra_163 s w hs hascii htab
def Tryd.lays118_ren : Go.Shelf.Ren := ⟨fun | 118 => 83 | n => n, fun | 21 => 21 | 3 => 3 | 4 => 4 | n => n, fun | n => n⟩
theorem Tryd.lays118 : Go.Proofs.Lays.n118 Tryd.prog Tryd.lays118_ren := {
  mixed := by kernel_rfl
  f118 := Tryd.func83.trans (congrArg some (by kernel_rfl))
  t3 := Tryd.underlying3
  a3 := Tryd.isAgg3
  z3 := Tryd.sizeOf3
  v3 := Tryd.zeroValue3
  t4 := Tryd.underlying4
  a4 := Tryd.isAgg4
  z4 := Tryd.sizeOf4
  v4 := Tryd.zeroValue4
  t21 := Tryd.underlying21
  a21 := Tryd.isAgg21
  z21 := Tryd.sizeOf21
  v21 := Tryd.zeroValue21 }
theorem Tryd.utf8_RuneLen (r : Int) (w : World) :
    Calls Tryd.prog 83 #[.int .i32 r] w fun e w' => e = .returned (.int .i64 (Lib.runeLen r)) ∧ w' = w := Any.utf8_RuneLen Tryd.lays118 r w
def Tryd.lays120_ren : Go.Shelf.Ren := ⟨fun | 120 => 87 | n => n, fun | 5 => 5 | 4 => 4 | n => n, fun | n => n⟩
theorem Tryd.lays120 : Go.Proofs.Lays.n120 Tryd.prog Tryd.lays120_ren := {
  mixed := by kernel_rfl
  f120 := Tryd.func87.trans (congrArg some (by kernel_rfl))
  t4 := Tryd.underlying4
  a4 := Tryd.isAgg4
  z4 := Tryd.sizeOf4
  v4 := Tryd.zeroValue4
  t5 := Tryd.underlying5
  a5 := Tryd.isAgg5
  z5 := Tryd.sizeOf5
  v5 := Tryd.zeroValue5 }
theorem Tryd.utf8_RuneStart (b : Int) (w : World) (h0 : 0 ≤ b) (h1 : b < 256) :
    Calls Tryd.prog 87 #[.int .u8 b] w fun e w' => e = .returned (.bool (Lib.runeStart b)) ∧ w' = w := Any.utf8_RuneStart Tryd.lays120 b w h0 h1
def Tryd.lays315_ren : Go.Shelf.Ren := ⟨fun | 315 => 66 | n => n, fun | 9 => 9 | 40 => 67 | 4 => 4 | 3 => 3 | 0 => 0 | 21 => 21 | n => n, fun | n => n⟩
theorem Tryd.lays315 : Go.Proofs.Lays.n315 Tryd.prog Tryd.lays315_ren := {
  mixed := by kernel_rfl
  f315 := Tryd.func66.trans (congrArg some (by kernel_rfl))
  t0 := Tryd.underlying0
  a0 := Tryd.isAgg0
  z0 := Tryd.sizeOf0
  v0 := Tryd.zeroValue0
  t3 := Tryd.underlying3
  a3 := Tryd.isAgg3
  z3 := Tryd.sizeOf3
  v3 := Tryd.zeroValue3
  t4 := Tryd.underlying4
  a4 := Tryd.isAgg4
  z4 := Tryd.sizeOf4
  v4 := Tryd.zeroValue4
  t9 := Tryd.underlying9
  a9 := Tryd.isAgg9
  z9 := Tryd.sizeOf9
  v9 := Tryd.zeroValue9
  t21 := Tryd.underlying21
  a21 := Tryd.isAgg21
  z21 := Tryd.sizeOf21
  v21 := Tryd.zeroValue21
  t40 := Tryd.underlying67
  a40 := Tryd.isAgg67
  z40 := Tryd.sizeOf67
  v40 := Tryd.zeroValue67 }
open Go.RowKit Go.Lib in
theorem Tryd.strings_indexFunc (g : Nat) (lb : Array Value) (eg : ∀ args w, (callFunc g args).run Tryd.prog w = .ok (.enter g args) w) (p : Nat → Bool) (truth : Bool) (s : ByteArray) (w : World) (hp : PredAt Tryd.prog g lb encR p w) :
    Calls Tryd.prog 66 #[.string s, .func (.func g) #[] lb, .bool truth] w fun e w' => e = .returned (.int .i64 (Lib.idxFunc p truth s)) ∧ Below w.heap.size w w' := Any.strings_indexFunc Tryd.lays315 g lb eg p truth s w hp
def Tryd.lays273_ren : Go.Shelf.Ren := ⟨fun | 273 => 44 | 271 => 67 | 120 => 87 | 197 => 45 | 260 => 68 | n => n, fun | 9 => 9 | 40 => 67 | 4 => 4 | 3 => 3 | 105 => 104 | 21 => 21 | 5 => 5 | 119 => 75 | 0 => 0 | 46 => 79 | 139 => 78 | 138 => 77 | n => n, fun | 3 => 0 | 4 => 1 | n => n⟩
theorem Tryd.lays273 : Go.Proofs.Lays.n273 Tryd.prog Tryd.lays273_ren := {
  mixed := by kernel_rfl
  f120 := Tryd.func87.trans (congrArg some (by kernel_rfl))
  f197 := Tryd.func45.trans (congrArg some (by kernel_rfl))
  f260 := Tryd.func68.trans (congrArg some (by kernel_rfl))
  f271 := Tryd.func67.trans (congrArg some (by kernel_rfl))
  f273 := Tryd.func44.trans (congrArg some (by kernel_rfl))
  t0 := Tryd.underlying0
  a0 := Tryd.isAgg0
  z0 := Tryd.sizeOf0
  v0 := Tryd.zeroValue0
  t3 := Tryd.underlying3
  a3 := Tryd.isAgg3
  z3 := Tryd.sizeOf3
  v3 := Tryd.zeroValue3
  t4 := Tryd.underlying4
  a4 := Tryd.isAgg4
  z4 := Tryd.sizeOf4
  v4 := Tryd.zeroValue4
  t5 := Tryd.underlying5
  a5 := Tryd.isAgg5
  z5 := Tryd.sizeOf5
  v5 := Tryd.zeroValue5
  t9 := Tryd.underlying9
  a9 := Tryd.isAgg9
  z9 := Tryd.sizeOf9
  v9 := Tryd.zeroValue9
  t21 := Tryd.underlying21
  a21 := Tryd.isAgg21
  z21 := Tryd.sizeOf21
  v21 := Tryd.zeroValue21
  t40 := Tryd.underlying67
  a40 := Tryd.isAgg67
  z40 := Tryd.sizeOf67
  v40 := Tryd.zeroValue67
  t46 := Tryd.underlying79
  a46 := Tryd.isAgg79
  z46 := Tryd.sizeOf79
  v46 := Tryd.zeroValue79
  t105 := Tryd.underlying104
  a105 := Tryd.isAgg104
  z105 := Tryd.sizeOf104
  v105 := Tryd.zeroValue104
  t119 := Tryd.underlying75
  a119 := Tryd.isAgg75
  z119 := Tryd.sizeOf75
  t138 := Tryd.underlying77
  a138 := Tryd.isAgg77
  z138 := Tryd.sizeOf77
  v138 := Tryd.zeroValue77
  t139 := Tryd.underlying78
  a139 := Tryd.isAgg78
  z139 := Tryd.sizeOf78
  v139 := Tryd.zeroValue78
  g3 := by kernel_rfl
  g4 := by kernel_rfl }
open Go.RowKit Go.Lib in
theorem Tryd.strings_lastIndexFunc (g : Nat) (lb : Array Value) (eg : ∀ args w, (callFunc g args).run Tryd.prog w = .ok (.enter g args) w) (p : Nat → Bool) (truth : Bool) (s : ByteArray) (w : World) (hs : s.size ≤ 9223372036854775807) (hT : Lib.Utf8Tabs 0 1 w) (hp : PredAt Tryd.prog g lb encR p w) :
    Calls Tryd.prog 44 #[.string s, .func (.func g) #[] lb, .bool truth] w fun e w' => e = .returned (.int .i64 (Lib.lastIdxFunc p truth s)) ∧ Below w.heap.size w w' := Any.strings_lastIndexFunc Tryd.lays273 g lb eg p truth s w hs hT hp
def Tryd.lays272_ren : Go.Shelf.Ren := ⟨fun | 272 => 43 | 315 => 66 | n => n, fun | 9 => 9 | 40 => 67 | 4 => 4 | 3 => 3 | 0 => 0 | 21 => 21 | n => n, fun | n => n⟩
theorem Tryd.lays272 : Go.Proofs.Lays.n272 Tryd.prog Tryd.lays272_ren := {
  mixed := by kernel_rfl
  f272 := Tryd.func43.trans (congrArg some (by kernel_rfl))
  f315 := Tryd.func66.trans (congrArg some (by kernel_rfl))
  t0 := Tryd.underlying0
  a0 := Tryd.isAgg0
  z0 := Tryd.sizeOf0
  v0 := Tryd.zeroValue0
  t3 := Tryd.underlying3
  a3 := Tryd.isAgg3
  z3 := Tryd.sizeOf3
  v3 := Tryd.zeroValue3
  t4 := Tryd.underlying4
  a4 := Tryd.isAgg4
  z4 := Tryd.sizeOf4
  v4 := Tryd.zeroValue4
  t9 := Tryd.underlying9
  a9 := Tryd.isAgg9
  z9 := Tryd.sizeOf9
  v9 := Tryd.zeroValue9
  t21 := Tryd.underlying21
  a21 := Tryd.isAgg21
  z21 := Tryd.sizeOf21
  v21 := Tryd.zeroValue21
  t40 := Tryd.underlying67
  a40 := Tryd.isAgg67
  z40 := Tryd.sizeOf67
  v40 := Tryd.zeroValue67 }
open Go.RowKit Go.Lib in
theorem Tryd.strings_TrimLeftFunc (g : Nat) (lb : Array Value) (eg : ∀ args w, (callFunc g args).run Tryd.prog w = .ok (.enter g args) w) (p : Nat → Bool) (s : ByteArray) (w : World) (hp : PredAt Tryd.prog g lb encR p w) :
    Calls Tryd.prog 43 #[.string s, .func (.func g) #[] lb] w fun e w' => e = .returned (.string (Lib.trimLeftF p s)) ∧ Below w.heap.size w w' := Any.strings_TrimLeftFunc Tryd.lays272 g lb eg p s w hp
def Tryd.lays238_ren : Go.Shelf.Ren := ⟨fun | 238 => 33 | 273 => 44 | 197 => 45 | 271 => 67 | 260 => 68 | 120 => 87 | n => n, fun | 9 => 9 | 40 => 67 | 4 => 4 | 3 => 3 | 105 => 104 | 21 => 21 | 5 => 5 | 119 => 75 | 0 => 0 | 46 => 79 | 139 => 78 | 138 => 77 | n => n, fun | 3 => 0 | 4 => 1 | n => n⟩
theorem Tryd.lays238 : Go.Proofs.Lays.n238 Tryd.prog Tryd.lays238_ren := {
  mixed := by kernel_rfl
  f120 := Tryd.func87.trans (congrArg some (by kernel_rfl))
  f197 := Tryd.func45.trans (congrArg some (by kernel_rfl))
  f238 := Tryd.func33.trans (congrArg some (by kernel_rfl))
  f260 := Tryd.func68.trans (congrArg some (by kernel_rfl))
  f271 := Tryd.func67.trans (congrArg some (by kernel_rfl))
  f273 := Tryd.func44.trans (congrArg some (by kernel_rfl))
  t0 := Tryd.underlying0
  a0 := Tryd.isAgg0
  z0 := Tryd.sizeOf0
  v0 := Tryd.zeroValue0
  t3 := Tryd.underlying3
  a3 := Tryd.isAgg3
  z3 := Tryd.sizeOf3
  v3 := Tryd.zeroValue3
  t4 := Tryd.underlying4
  a4 := Tryd.isAgg4
  z4 := Tryd.sizeOf4
  v4 := Tryd.zeroValue4
  t5 := Tryd.underlying5
  a5 := Tryd.isAgg5
  z5 := Tryd.sizeOf5
  v5 := Tryd.zeroValue5
  t9 := Tryd.underlying9
  a9 := Tryd.isAgg9
  z9 := Tryd.sizeOf9
  v9 := Tryd.zeroValue9
  t21 := Tryd.underlying21
  a21 := Tryd.isAgg21
  z21 := Tryd.sizeOf21
  v21 := Tryd.zeroValue21
  t40 := Tryd.underlying67
  a40 := Tryd.isAgg67
  z40 := Tryd.sizeOf67
  v40 := Tryd.zeroValue67
  t46 := Tryd.underlying79
  a46 := Tryd.isAgg79
  z46 := Tryd.sizeOf79
  v46 := Tryd.zeroValue79
  t105 := Tryd.underlying104
  a105 := Tryd.isAgg104
  z105 := Tryd.sizeOf104
  v105 := Tryd.zeroValue104
  t119 := Tryd.underlying75
  a119 := Tryd.isAgg75
  z119 := Tryd.sizeOf75
  t138 := Tryd.underlying77
  a138 := Tryd.isAgg77
  z138 := Tryd.sizeOf77
  v138 := Tryd.zeroValue77
  t139 := Tryd.underlying78
  a139 := Tryd.isAgg78
  z139 := Tryd.sizeOf78
  v139 := Tryd.zeroValue78
  g3 := by kernel_rfl
  g4 := by kernel_rfl }
open Go.RowKit Go.Lib in
theorem Tryd.strings_TrimRightFunc (g : Nat) (lb : Array Value) (eg : ∀ args w, (callFunc g args).run Tryd.prog w = .ok (.enter g args) w) (p : Nat → Bool) (s : ByteArray) (w : World) (hs : s.size ≤ 9223372036854775807) (hT : Lib.Utf8Tabs 0 1 w) (hp : PredAt Tryd.prog g lb encR p w) :
    Calls Tryd.prog 33 #[.string s, .func (.func g) #[] lb] w fun e w' => e = .returned (.string (Lib.trimRightF p s)) ∧ Below w.heap.size w w' := Any.strings_TrimRightFunc Tryd.lays238 g lb eg p s w hs hT hp
def Tryd.lays237_ren : Go.Shelf.Ren := ⟨fun | 237 => 31 | 272 => 43 | 238 => 33 | 315 => 66 | 273 => 44 | 197 => 45 | 271 => 67 | 260 => 68 | 120 => 87 | n => n, fun | 9 => 9 | 40 => 67 | 4 => 4 | 3 => 3 | 105 => 104 | 21 => 21 | 0 => 0 | 5 => 5 | 119 => 75 | 46 => 79 | 139 => 78 | 138 => 77 | n => n, fun | 3 => 0 | 4 => 1 | n => n⟩
theorem Tryd.lays237 : Go.Proofs.Lays.n237 Tryd.prog Tryd.lays237_ren := {
  mixed := by kernel_rfl
  f120 := Tryd.func87.trans (congrArg some (by kernel_rfl))
  f197 := Tryd.func45.trans (congrArg some (by kernel_rfl))
  f237 := Tryd.func31.trans (congrArg some (by kernel_rfl))
  f238 := Tryd.func33.trans (congrArg some (by kernel_rfl))
  f260 := Tryd.func68.trans (congrArg some (by kernel_rfl))
  f271 := Tryd.func67.trans (congrArg some (by kernel_rfl))
  f272 := Tryd.func43.trans (congrArg some (by kernel_rfl))
  f273 := Tryd.func44.trans (congrArg some (by kernel_rfl))
  f315 := Tryd.func66.trans (congrArg some (by kernel_rfl))
  t0 := Tryd.underlying0
  a0 := Tryd.isAgg0
  z0 := Tryd.sizeOf0
  v0 := Tryd.zeroValue0
  t3 := Tryd.underlying3
  a3 := Tryd.isAgg3
  z3 := Tryd.sizeOf3
  v3 := Tryd.zeroValue3
  t4 := Tryd.underlying4
  a4 := Tryd.isAgg4
  z4 := Tryd.sizeOf4
  v4 := Tryd.zeroValue4
  t5 := Tryd.underlying5
  a5 := Tryd.isAgg5
  z5 := Tryd.sizeOf5
  v5 := Tryd.zeroValue5
  t9 := Tryd.underlying9
  a9 := Tryd.isAgg9
  z9 := Tryd.sizeOf9
  v9 := Tryd.zeroValue9
  t21 := Tryd.underlying21
  a21 := Tryd.isAgg21
  z21 := Tryd.sizeOf21
  v21 := Tryd.zeroValue21
  t40 := Tryd.underlying67
  a40 := Tryd.isAgg67
  z40 := Tryd.sizeOf67
  v40 := Tryd.zeroValue67
  t46 := Tryd.underlying79
  a46 := Tryd.isAgg79
  z46 := Tryd.sizeOf79
  v46 := Tryd.zeroValue79
  t105 := Tryd.underlying104
  a105 := Tryd.isAgg104
  z105 := Tryd.sizeOf104
  v105 := Tryd.zeroValue104
  t119 := Tryd.underlying75
  a119 := Tryd.isAgg75
  z119 := Tryd.sizeOf75
  t138 := Tryd.underlying77
  a138 := Tryd.isAgg77
  z138 := Tryd.sizeOf77
  v138 := Tryd.zeroValue77
  t139 := Tryd.underlying78
  a139 := Tryd.isAgg78
  z139 := Tryd.sizeOf78
  v139 := Tryd.zeroValue78
  g3 := by kernel_rfl
  g4 := by kernel_rfl }
open Go.RowKit Go.Lib in
theorem Tryd.strings_TrimFunc (g : Nat) (lb : Array Value) (eg : ∀ args w, (callFunc g args).run Tryd.prog w = .ok (.enter g args) w) (p : Nat → Bool) (s : ByteArray) (w : World) (hs : s.size ≤ 9223372036854775807) (hT : Lib.Utf8Tabs 0 1 w) (hp : PredAt Tryd.prog g lb encR p w) :
    Calls Tryd.prog 31 #[.string s, .func (.func g) #[] lb] w fun e w' => e = .returned (.string (Lib.trimF p s)) ∧ Below w.heap.size w w' := Any.strings_TrimFunc Tryd.lays237 g lb eg p s w hs hT hp
def Tryd.lays206_ren : Go.Shelf.Ren := ⟨fun | 206 => 64 | n => n, fun | 9 => 9 | 4 => 4 | 3 => 3 | n => n, fun | n => n⟩
theorem Tryd.lays206 : Go.Proofs.Lays.n206 Tryd.prog Tryd.lays206_ren := {
  mixed := by kernel_rfl
  f206 := Tryd.func64.trans (congrArg some (by kernel_rfl))
  t3 := Tryd.underlying3
  a3 := Tryd.isAgg3
  z3 := Tryd.sizeOf3
  v3 := Tryd.zeroValue3
  t4 := Tryd.underlying4
  a4 := Tryd.isAgg4
  z4 := Tryd.sizeOf4
  v4 := Tryd.zeroValue4
  t9 := Tryd.underlying9
  a9 := Tryd.isAgg9
  z9 := Tryd.sizeOf9
  v9 := Tryd.zeroValue9 }
open Go.RowKit Go.Lib in
theorem Tryd.stringslite_HasPrefix (s p : ByteArray) (w : World) :
    Calls Tryd.prog 64 #[.string s, .string p] w fun e w' => e = .returned (.bool (Lib.hasPrefix s.data.toList p.data.toList)) ∧ w' = w := Any.stringslite_HasPrefix Tryd.lays206 s p w
def Tryd.lays196_ren : Go.Shelf.Ren := ⟨fun | 196 => 15 | 259 => 29 | n => n, fun | 9 => 9 | 4 => 4 | 3 => 3 | 5 => 5 | 12 => 12 | 119 => 75 | 0 => 0 | 46 => 79 | 139 => 78 | 138 => 77 | 53 => 91 | n => n, fun | 3 => 0 | 4 => 1 | n => n⟩
theorem Tryd.lays196 : Go.Proofs.Lays.n196 Tryd.prog Tryd.lays196_ren := {
  mixed := by kernel_rfl
  f196 := Tryd.func15.trans (congrArg some (by kernel_rfl))
  f259 := Tryd.func29.trans (congrArg some (by kernel_rfl))
  t0 := Tryd.underlying0
  a0 := Tryd.isAgg0
  z0 := Tryd.sizeOf0
  v0 := Tryd.zeroValue0
  t3 := Tryd.underlying3
  a3 := Tryd.isAgg3
  z3 := Tryd.sizeOf3
  v3 := Tryd.zeroValue3
  t4 := Tryd.underlying4
  a4 := Tryd.isAgg4
  z4 := Tryd.sizeOf4
  v4 := Tryd.zeroValue4
  t5 := Tryd.underlying5
  a5 := Tryd.isAgg5
  z5 := Tryd.sizeOf5
  v5 := Tryd.zeroValue5
  t9 := Tryd.underlying9
  a9 := Tryd.isAgg9
  z9 := Tryd.sizeOf9
  v9 := Tryd.zeroValue9
  t12 := Tryd.underlying12
  a12 := Tryd.isAgg12
  z12 := Tryd.sizeOf12
  v12 := Tryd.zeroValue12
  t46 := Tryd.underlying79
  a46 := Tryd.isAgg79
  z46 := Tryd.sizeOf79
  v46 := Tryd.zeroValue79
  t53 := Tryd.underlying91
  a53 := Tryd.isAgg91
  z53 := Tryd.sizeOf91
  v53 := Tryd.zeroValue91
  t119 := Tryd.underlying75
  a119 := Tryd.isAgg75
  z119 := Tryd.sizeOf75
  t138 := Tryd.underlying77
  a138 := Tryd.isAgg77
  z138 := Tryd.sizeOf77
  v138 := Tryd.zeroValue77
  t139 := Tryd.underlying78
  a139 := Tryd.isAgg78
  z139 := Tryd.sizeOf78
  v139 := Tryd.zeroValue78
  g3 := by kernel_rfl
  g4 := by kernel_rfl }
open Go.RowKit Go.Lib in
theorem Tryd.utf8_ValidString (s : ByteArray) (w : World) (hs : s.size ≤ 9223372036854775807) (hT : Lib.Utf8Tabs (Tryd.lays196_ren.g 3) (Tryd.lays196_ren.g 4) w) :
    Calls Tryd.prog 15 #[.string s] w fun e w' => e = .returned (.bool (Lib.validD s.data.toList)) ∧ Below w.heap.size w w' := Any.utf8_ValidString Tryd.lays196 s w hs hT
def Tryd.lays99_ren : Go.Shelf.Ren := ⟨fun | 99 => 39 | 206 => 64 | n => n, fun | 9 => 9 | 4 => 4 | 3 => 3 | n => n, fun | n => n⟩
theorem Tryd.lays99 : Go.Proofs.Lays.n99 Tryd.prog Tryd.lays99_ren := {
  mixed := by kernel_rfl
  f99 := Tryd.func39.trans (congrArg some (by kernel_rfl))
  f206 := Tryd.func64.trans (congrArg some (by kernel_rfl))
  t3 := Tryd.underlying3
  a3 := Tryd.isAgg3
  z3 := Tryd.sizeOf3
  v3 := Tryd.zeroValue3
  t4 := Tryd.underlying4
  a4 := Tryd.isAgg4
  z4 := Tryd.sizeOf4
  v4 := Tryd.zeroValue4
  t9 := Tryd.underlying9
  a9 := Tryd.isAgg9
  z9 := Tryd.sizeOf9
  v9 := Tryd.zeroValue9 }
open Go.RowKit Go.Lib in
theorem Tryd.strings_HasPrefix (s p : ByteArray) (w : World) :
    Calls Tryd.prog 39 #[.string s, .string p] w fun e w' => e = .returned (.bool (Lib.hasPrefix s.data.toList p.data.toList)) ∧ w' = w := Any.strings_HasPrefix Tryd.lays99 s p w
def Tryd.lays207_ren : Go.Shelf.Ren := ⟨fun | 207 => 65 | n => n, fun | 9 => 9 | 4 => 4 | 3 => 3 | n => n, fun | n => n⟩
theorem Tryd.lays207 : Go.Proofs.Lays.n207 Tryd.prog Tryd.lays207_ren := {
  mixed := by kernel_rfl
  f207 := Tryd.func65.trans (congrArg some (by kernel_rfl))
  t3 := Tryd.underlying3
  a3 := Tryd.isAgg3
  z3 := Tryd.sizeOf3
  v3 := Tryd.zeroValue3
  t4 := Tryd.underlying4
  a4 := Tryd.isAgg4
  z4 := Tryd.sizeOf4
  v4 := Tryd.zeroValue4
  t9 := Tryd.underlying9
  a9 := Tryd.isAgg9
  z9 := Tryd.sizeOf9
  v9 := Tryd.zeroValue9 }
open Go.RowKit Go.Lib in
theorem Tryd.stringslite_HasSuffix (s p : ByteArray) (w : World) (hs : s.size ≤ 9223372036854775807) :
    Calls Tryd.prog 65 #[.string s, .string p] w fun e w' => e = .returned (.bool (Lib.hasSuffix s.data.toList p.data.toList)) ∧ w' = w := Any.stringslite_HasSuffix Tryd.lays207 s p w hs
def Tryd.lays100_ren : Go.Shelf.Ren := ⟨fun | 100 => 40 | 207 => 65 | n => n, fun | 9 => 9 | 4 => 4 | 3 => 3 | n => n, fun | n => n⟩
theorem Tryd.lays100 : Go.Proofs.Lays.n100 Tryd.prog Tryd.lays100_ren := {
  mixed := by kernel_rfl
  f100 := Tryd.func40.trans (congrArg some (by kernel_rfl))
  f207 := Tryd.func65.trans (congrArg some (by kernel_rfl))
  t3 := Tryd.underlying3
  a3 := Tryd.isAgg3
  z3 := Tryd.sizeOf3
  v3 := Tryd.zeroValue3
  t4 := Tryd.underlying4
  a4 := Tryd.isAgg4
  z4 := Tryd.sizeOf4
  v4 := Tryd.zeroValue4
  t9 := Tryd.underlying9
  a9 := Tryd.isAgg9
  z9 := Tryd.sizeOf9
  v9 := Tryd.zeroValue9 }
open Go.RowKit Go.Lib in
theorem Tryd.strings_HasSuffix (s p : ByteArray) (w : World) (hs : s.size ≤ 9223372036854775807) :
    Calls Tryd.prog 40 #[.string s, .string p] w fun e w' => e = .returned (.bool (Lib.hasSuffix s.data.toList p.data.toList)) ∧ w' = w := Any.strings_HasSuffix Tryd.lays100 s p w hs
def Tryd.lays198_ren : Go.Shelf.Ren := ⟨fun | 198 => 18 | 261 => 30 | 311 => 41 | 312 => 42 | n => n, fun | 21 => 21 | 4 => 4 | 141 => 82 | 0 => 0 | 196 => 95 | 193 => 92 | 3 => 3 | 51 => 80 | 198 => 98 | 49 => 96 | 194 => 93 | 201 => 101 | 226 => 131 | 46 => 79 | 227 => 132 | n => n, fun | 5 => 5 | n => n⟩
theorem Tryd.lays198 : Go.Proofs.Lays.n198 Tryd.prog Tryd.lays198_ren := {
  mixed := by kernel_rfl
  f198 := Tryd.func18.trans (congrArg some (by kernel_rfl))
  f261 := Tryd.func30.trans (congrArg some (by kernel_rfl))
  f311 := Tryd.func41.trans (congrArg some (by kernel_rfl))
  f312 := Tryd.func42.trans (congrArg some (by kernel_rfl))
  t0 := Tryd.underlying0
  a0 := Tryd.isAgg0
  z0 := Tryd.sizeOf0
  v0 := Tryd.zeroValue0
  t3 := Tryd.underlying3
  a3 := Tryd.isAgg3
  z3 := Tryd.sizeOf3
  v3 := Tryd.zeroValue3
  t4 := Tryd.underlying4
  a4 := Tryd.isAgg4
  z4 := Tryd.sizeOf4
  v4 := Tryd.zeroValue4
  t21 := Tryd.underlying21
  a21 := Tryd.isAgg21
  z21 := Tryd.sizeOf21
  v21 := Tryd.zeroValue21
  t46 := Tryd.underlying79
  a46 := Tryd.isAgg79
  z46 := Tryd.sizeOf79
  v46 := Tryd.zeroValue79
  t49 := Tryd.underlying96
  a49 := Tryd.isAgg96
  z49 := Tryd.sizeOf96
  v49 := Tryd.zeroValue96
  t51 := Tryd.underlying80
  a51 := Tryd.isAgg80
  z51 := Tryd.sizeOf80
  v51 := Tryd.zeroValue80
  t141 := Tryd.underlying82
  a141 := Tryd.isAgg82
  z141 := Tryd.sizeOf82
  v141 := Tryd.zeroValue82
  t193 := Tryd.underlying92
  a193 := Tryd.isAgg92
  z193 := Tryd.sizeOf92
  v193 := Tryd.zeroValue92
  t194 := Tryd.underlying93
  a194 := Tryd.isAgg93
  z194 := Tryd.sizeOf93
  v194 := Tryd.zeroValue93
  t196 := Tryd.underlying95
  a196 := Tryd.isAgg95
  z196 := Tryd.sizeOf95
  v196 := Tryd.zeroValue95
  t198 := Tryd.underlying98
  a198 := Tryd.isAgg98
  z198 := Tryd.sizeOf98
  v198 := Tryd.zeroValue98
  t201 := Tryd.underlying101
  a201 := Tryd.isAgg101
  z201 := Tryd.sizeOf101
  v201 := Tryd.zeroValue101
  t226 := Tryd.underlying131
  a226 := Tryd.isAgg131
  z226 := Tryd.sizeOf131
  v226 := Tryd.zeroValue131
  t227 := Tryd.underlying132
  a227 := Tryd.isAgg132
  z227 := Tryd.sizeOf132
  v227 := Tryd.zeroValue132
  g5 := by kernel_rfl }
open Go.RowKit Go.Lib in
theorem Tryd.unicode_IsDigit (r : Int) (w : World) (h : r ≤ 255) :
    Calls Tryd.prog 18 #[.int .i32 r] w fun e w' => e = .returned (.bool (Lib.isDigitL r)) ∧ w' = w := Any.unicode_IsDigit Tryd.lays198 r w h
def Tryd.lays199_ren : Go.Shelf.Ren := ⟨fun | 199 => 32 | 261 => 30 | 311 => 41 | 312 => 42 | n => n, fun | 21 => 21 | 4 => 4 | 51 => 80 | 141 => 82 | 0 => 0 | 196 => 95 | 193 => 92 | 3 => 3 | 198 => 98 | 49 => 96 | 194 => 93 | 201 => 101 | 226 => 131 | 46 => 79 | 227 => 132 | n => n, fun | 6 => 7 | n => n⟩
theorem Tryd.lays199 : Go.Proofs.Lays.n199 Tryd.prog Tryd.lays199_ren := {
  mixed := by kernel_rfl
  f199 := Tryd.func32.trans (congrArg some (by kernel_rfl))
  f261 := Tryd.func30.trans (congrArg some (by kernel_rfl))
  f311 := Tryd.func41.trans (congrArg some (by kernel_rfl))
  f312 := Tryd.func42.trans (congrArg some (by kernel_rfl))
  t0 := Tryd.underlying0
  a0 := Tryd.isAgg0
  z0 := Tryd.sizeOf0
  v0 := Tryd.zeroValue0
  t3 := Tryd.underlying3
  a3 := Tryd.isAgg3
  z3 := Tryd.sizeOf3
  v3 := Tryd.zeroValue3
  t4 := Tryd.underlying4
  a4 := Tryd.isAgg4
  z4 := Tryd.sizeOf4
  v4 := Tryd.zeroValue4
  t21 := Tryd.underlying21
  a21 := Tryd.isAgg21
  z21 := Tryd.sizeOf21
  v21 := Tryd.zeroValue21
  t46 := Tryd.underlying79
  a46 := Tryd.isAgg79
  z46 := Tryd.sizeOf79
  v46 := Tryd.zeroValue79
  t49 := Tryd.underlying96
  a49 := Tryd.isAgg96
  z49 := Tryd.sizeOf96
  v49 := Tryd.zeroValue96
  t51 := Tryd.underlying80
  a51 := Tryd.isAgg80
  z51 := Tryd.sizeOf80
  v51 := Tryd.zeroValue80
  t141 := Tryd.underlying82
  a141 := Tryd.isAgg82
  z141 := Tryd.sizeOf82
  v141 := Tryd.zeroValue82
  t193 := Tryd.underlying92
  a193 := Tryd.isAgg92
  z193 := Tryd.sizeOf92
  v193 := Tryd.zeroValue92
  t194 := Tryd.underlying93
  a194 := Tryd.isAgg93
  z194 := Tryd.sizeOf93
  v194 := Tryd.zeroValue93
  t196 := Tryd.underlying95
  a196 := Tryd.isAgg95
  z196 := Tryd.sizeOf95
  v196 := Tryd.zeroValue95
  t198 := Tryd.underlying98
  a198 := Tryd.isAgg98
  z198 := Tryd.sizeOf98
  v198 := Tryd.zeroValue98
  t201 := Tryd.underlying101
  a201 := Tryd.isAgg101
  z201 := Tryd.sizeOf101
  v201 := Tryd.zeroValue101
  t226 := Tryd.underlying131
  a226 := Tryd.isAgg131
  z226 := Tryd.sizeOf131
  v226 := Tryd.zeroValue131
  t227 := Tryd.underlying132
  a227 := Tryd.isAgg132
  z227 := Tryd.sizeOf132
  v227 := Tryd.zeroValue132
  g6 := by kernel_rfl }
open Go.RowKit Go.Lib in
theorem Tryd.unicode_IsSpace (r : Int) (w : World) (h0 : 0 ≤ r) (h : r ≤ 255) :
    Calls Tryd.prog 32 #[.int .i32 r] w fun e w' => e = .returned (.bool (Lib.isSpaceL r)) ∧ w' = w := Any.unicode_IsSpace Tryd.lays199 r w h0 h
def Tryd.lays204_ren : Go.Shelf.Ren := ⟨fun | 204 => 63 | 262 => 86 | 313 => 94 | 274 => 70 | 275 => 71 | n => n, fun | 21 => 21 | 4 => 4 | 3 => 3 | 162 => 140 | 203 => 168 | 160 => 138 | 46 => 79 | 0 => 0 | 208 => 161 | 51 => 80 | 206 => 159 | n => n, fun | 13 => 10 | n => n⟩
theorem Tryd.lays204 : Go.Proofs.Lays.n204 Tryd.prog Tryd.lays204_ren := {
  mixed := by kernel_rfl
  f204 := Tryd.func63.trans (congrArg some (by kernel_rfl))
  f262 := Tryd.func86.trans (congrArg some (by kernel_rfl))
  f274 := Tryd.func70.trans (congrArg some (by kernel_rfl))
  f275 := Tryd.func71.trans (congrArg some (by kernel_rfl))
  f313 := Tryd.func94.trans (congrArg some (by kernel_rfl))
  t0 := Tryd.underlying0
  a0 := Tryd.isAgg0
  z0 := Tryd.sizeOf0
  v0 := Tryd.zeroValue0
  t3 := Tryd.underlying3
  a3 := Tryd.isAgg3
  z3 := Tryd.sizeOf3
  v3 := Tryd.zeroValue3
  t4 := Tryd.underlying4
  a4 := Tryd.isAgg4
  z4 := Tryd.sizeOf4
  v4 := Tryd.zeroValue4
  t21 := Tryd.underlying21
  a21 := Tryd.isAgg21
  z21 := Tryd.sizeOf21
  v21 := Tryd.zeroValue21
  t46 := Tryd.underlying79
  a46 := Tryd.isAgg79
  z46 := Tryd.sizeOf79
  v46 := Tryd.zeroValue79
  t51 := Tryd.underlying80
  a51 := Tryd.isAgg80
  z51 := Tryd.sizeOf80
  v51 := Tryd.zeroValue80
  t160 := Tryd.underlying138
  a160 := Tryd.isAgg138
  z160 := Tryd.sizeOf138
  v160 := Tryd.zeroValue138
  t162 := Tryd.underlying140
  a162 := Tryd.isAgg140
  z162 := Tryd.sizeOf140
  v162 := Tryd.zeroValue140
  t203 := Tryd.underlying168
  a203 := Tryd.isAgg168
  z203 := Tryd.sizeOf168
  v203 := Tryd.zeroValue168
  t206 := Tryd.underlying159
  a206 := Tryd.isAgg159
  z206 := Tryd.sizeOf159
  v206 := Tryd.zeroValue159
  t208 := Tryd.underlying161
  a208 := Tryd.isAgg161
  z208 := Tryd.sizeOf161
  v208 := Tryd.zeroValue161
  g13 := by kernel_rfl }
open Go.RowKit Go.Lib in
theorem Tryd.unicode_ToLower (r : Int) (w : World) (h : r ≤ 127) :
    Calls Tryd.prog 63 #[.int .i32 r] w fun e w' => e = .returned (.int .i32 (Lib.toLowerR r)) ∧ w' = w := Any.unicode_ToLower Tryd.lays204 r w h
def Tryd.lays201_ren : Go.Shelf.Ren := ⟨fun | 201 => 17 | 261 => 30 | 311 => 41 | 312 => 42 | n => n, fun | 21 => 21 | 4 => 4 | 51 => 80 | 5 => 5 | 119 => 75 | 0 => 0 | 141 => 82 | 196 => 95 | 193 => 92 | 3 => 3 | 198 => 98 | 49 => 96 | 194 => 93 | 201 => 101 | 226 => 131 | 46 => 79 | 227 => 132 | n => n, fun | 7 => 2 | 9 => 4 | n => n⟩
theorem Tryd.lays201 : Go.Proofs.Lays.n201 Tryd.prog Tryd.lays201_ren := {
  mixed := by kernel_rfl
  f201 := Tryd.func17.trans (congrArg some (by kernel_rfl))
  f261 := Tryd.func30.trans (congrArg some (by kernel_rfl))
  f311 := Tryd.func41.trans (congrArg some (by kernel_rfl))
  f312 := Tryd.func42.trans (congrArg some (by kernel_rfl))
  t0 := Tryd.underlying0
  a0 := Tryd.isAgg0
  z0 := Tryd.sizeOf0
  v0 := Tryd.zeroValue0
  t3 := Tryd.underlying3
  a3 := Tryd.isAgg3
  z3 := Tryd.sizeOf3
  v3 := Tryd.zeroValue3
  t4 := Tryd.underlying4
  a4 := Tryd.isAgg4
  z4 := Tryd.sizeOf4
  v4 := Tryd.zeroValue4
  t5 := Tryd.underlying5
  a5 := Tryd.isAgg5
  z5 := Tryd.sizeOf5
  v5 := Tryd.zeroValue5
  t21 := Tryd.underlying21
  a21 := Tryd.isAgg21
  z21 := Tryd.sizeOf21
  v21 := Tryd.zeroValue21
  t46 := Tryd.underlying79
  a46 := Tryd.isAgg79
  z46 := Tryd.sizeOf79
  v46 := Tryd.zeroValue79
  t49 := Tryd.underlying96
  a49 := Tryd.isAgg96
  z49 := Tryd.sizeOf96
  v49 := Tryd.zeroValue96
  t51 := Tryd.underlying80
  a51 := Tryd.isAgg80
  z51 := Tryd.sizeOf80
  v51 := Tryd.zeroValue80
  t119 := Tryd.underlying75
  a119 := Tryd.isAgg75
  z119 := Tryd.sizeOf75
  t141 := Tryd.underlying82
  a141 := Tryd.isAgg82
  z141 := Tryd.sizeOf82
  v141 := Tryd.zeroValue82
  t193 := Tryd.underlying92
  a193 := Tryd.isAgg92
  z193 := Tryd.sizeOf92
  v193 := Tryd.zeroValue92
  t194 := Tryd.underlying93
  a194 := Tryd.isAgg93
  z194 := Tryd.sizeOf93
  v194 := Tryd.zeroValue93
  t196 := Tryd.underlying95
  a196 := Tryd.isAgg95
  z196 := Tryd.sizeOf95
  v196 := Tryd.zeroValue95
  t198 := Tryd.underlying98
  a198 := Tryd.isAgg98
  z198 := Tryd.sizeOf98
  v198 := Tryd.zeroValue98
  t201 := Tryd.underlying101
  a201 := Tryd.isAgg101
  z201 := Tryd.sizeOf101
  v201 := Tryd.zeroValue101
  t226 := Tryd.underlying131
  a226 := Tryd.isAgg131
  z226 := Tryd.sizeOf131
  v226 := Tryd.zeroValue131
  t227 := Tryd.underlying132
  a227 := Tryd.isAgg132
  z227 := Tryd.sizeOf132
  v227 := Tryd.zeroValue132
  g7 := by kernel_rfl
  g9 := by kernel_rfl }
open Go.RowKit Go.Lib in
theorem Tryd.unicode_IsUpper (c : Nat) (w : World) (hc : c < 256) (htab : Lib.TabIs Tryd.prog w "unicode.properties" .u8 Lib.propertiesTab) :
    Calls Tryd.prog 17 #[.int .i32 c] w fun e w' => e = .returned (.bool (Lib.isUpperL c)) ∧ w' = w := Any.unicode_IsUpper Tryd.lays201 (by kernel_rfl) c w hc htab
def Tryd.lays202_ren : Go.Shelf.Ren := ⟨fun | 202 => 16 | 261 => 30 | 311 => 41 | 312 => 42 | n => n, fun | 21 => 21 | 4 => 4 | 51 => 80 | 5 => 5 | 119 => 75 | 0 => 0 | 141 => 82 | 196 => 95 | 193 => 92 | 3 => 3 | 198 => 98 | 49 => 96 | 194 => 93 | 201 => 101 | 226 => 131 | 46 => 79 | 227 => 132 | n => n, fun | 7 => 2 | 10 => 3 | n => n⟩
theorem Tryd.lays202 : Go.Proofs.Lays.n202 Tryd.prog Tryd.lays202_ren := {
  mixed := by kernel_rfl
  f202 := Tryd.func16.trans (congrArg some (by kernel_rfl))
  f261 := Tryd.func30.trans (congrArg some (by kernel_rfl))
  f311 := Tryd.func41.trans (congrArg some (by kernel_rfl))
  f312 := Tryd.func42.trans (congrArg some (by kernel_rfl))
  t0 := Tryd.underlying0
  a0 := Tryd.isAgg0
  z0 := Tryd.sizeOf0
  v0 := Tryd.zeroValue0
  t3 := Tryd.underlying3
  a3 := Tryd.isAgg3
  z3 := Tryd.sizeOf3
  v3 := Tryd.zeroValue3
  t4 := Tryd.underlying4
  a4 := Tryd.isAgg4
  z4 := Tryd.sizeOf4
  v4 := Tryd.zeroValue4
  t5 := Tryd.underlying5
  a5 := Tryd.isAgg5
  z5 := Tryd.sizeOf5
  v5 := Tryd.zeroValue5
  t21 := Tryd.underlying21
  a21 := Tryd.isAgg21
  z21 := Tryd.sizeOf21
  v21 := Tryd.zeroValue21
  t46 := Tryd.underlying79
  a46 := Tryd.isAgg79
  z46 := Tryd.sizeOf79
  v46 := Tryd.zeroValue79
  t49 := Tryd.underlying96
  a49 := Tryd.isAgg96
  z49 := Tryd.sizeOf96
  v49 := Tryd.zeroValue96
  t51 := Tryd.underlying80
  a51 := Tryd.isAgg80
  z51 := Tryd.sizeOf80
  v51 := Tryd.zeroValue80
  t119 := Tryd.underlying75
  a119 := Tryd.isAgg75
  z119 := Tryd.sizeOf75
  t141 := Tryd.underlying82
  a141 := Tryd.isAgg82
  z141 := Tryd.sizeOf82
  v141 := Tryd.zeroValue82
  t193 := Tryd.underlying92
  a193 := Tryd.isAgg92
  z193 := Tryd.sizeOf92
  v193 := Tryd.zeroValue92
  t194 := Tryd.underlying93
  a194 := Tryd.isAgg93
  z194 := Tryd.sizeOf93
  v194 := Tryd.zeroValue93
  t196 := Tryd.underlying95
  a196 := Tryd.isAgg95
  z196 := Tryd.sizeOf95
  v196 := Tryd.zeroValue95
  t198 := Tryd.underlying98
  a198 := Tryd.isAgg98
  z198 := Tryd.sizeOf98
  v198 := Tryd.zeroValue98
  t201 := Tryd.underlying101
  a201 := Tryd.isAgg101
  z201 := Tryd.sizeOf101
  v201 := Tryd.zeroValue101
  t226 := Tryd.underlying131
  a226 := Tryd.isAgg131
  z226 := Tryd.sizeOf131
  v226 := Tryd.zeroValue131
  t227 := Tryd.underlying132
  a227 := Tryd.isAgg132
  z227 := Tryd.sizeOf132
  v227 := Tryd.zeroValue132
  g7 := by kernel_rfl
  g10 := by kernel_rfl }
open Go.RowKit Go.Lib in
theorem Tryd.unicode_IsLower (c : Nat) (w : World) (hc : c < 256) (htab : Lib.TabIs Tryd.prog w "unicode.properties" .u8 Lib.propertiesTab) :
    Calls Tryd.prog 16 #[.int .i32 c] w fun e w' => e = .returned (.bool (Lib.isLowerL c)) ∧ w' = w := Any.unicode_IsLower Tryd.lays202 (by kernel_rfl) c w hc htab
def Tryd.laysM201_ren : Go.Shelf.Ren := ⟨fun | 201 => 17 | 261 => 30 | 311 => 41 | 312 => 42 | n => n, fun | 21 => 21 | 4 => 4 | 51 => 80 | 5 => 5 | 119 => 75 | 0 => 0 | 141 => 82 | 196 => 95 | 193 => 92 | 3 => 3 | 198 => 98 | 49 => 96 | 194 => 93 | 201 => 101 | 226 => 131 | 46 => 79 | 227 => 132 | n => n, fun | 7 => 2 | 9 => 4 | n => n⟩
theorem Tryd.laysM201 : Go.Proofs.LaysM.n201 Tryd.prog Tryd.laysM201_ren := {
  mixed := by kernel_rfl
  f201 := Tryd.func17.trans (congrArg some (by kernel_rfl))
  f261 := Tryd.func30.trans (congrArg some (by kernel_rfl))
  f311 := Tryd.func41.trans (congrArg some (by kernel_rfl))
  f312 := Tryd.func42.trans (congrArg some (by kernel_rfl))
  t0 := Tryd.underlying0
  a0 := Tryd.isAgg0
  z0 := Tryd.sizeOf0
  v0 := Tryd.zeroValue0
  t3 := Tryd.underlying3
  a3 := Tryd.isAgg3
  z3 := Tryd.sizeOf3
  v3 := Tryd.zeroValue3
  t4 := Tryd.underlying4
  a4 := Tryd.isAgg4
  z4 := Tryd.sizeOf4
  v4 := Tryd.zeroValue4
  t5 := Tryd.underlying5
  a5 := Tryd.isAgg5
  z5 := Tryd.sizeOf5
  v5 := Tryd.zeroValue5
  t21 := Tryd.underlying21
  a21 := Tryd.isAgg21
  z21 := Tryd.sizeOf21
  v21 := Tryd.zeroValue21
  t46 := Tryd.underlying79
  a46 := Tryd.isAgg79
  z46 := Tryd.sizeOf79
  v46 := Tryd.zeroValue79
  t49 := Tryd.underlying96
  a49 := Tryd.isAgg96
  z49 := Tryd.sizeOf96
  v49 := Tryd.zeroValue96
  t51 := Tryd.underlying80
  a51 := Tryd.isAgg80
  z51 := Tryd.sizeOf80
  v51 := Tryd.zeroValue80
  t119 := Tryd.underlying75
  a119 := Tryd.isAgg75
  z119 := Tryd.sizeOf75
  t141 := Tryd.underlying82
  a141 := Tryd.isAgg82
  z141 := Tryd.sizeOf82
  v141 := Tryd.zeroValue82
  t193 := Tryd.underlying92
  a193 := Tryd.isAgg92
  z193 := Tryd.sizeOf92
  v193 := Tryd.zeroValue92
  t194 := Tryd.underlying93
  a194 := Tryd.isAgg93
  z194 := Tryd.sizeOf93
  v194 := Tryd.zeroValue93
  t196 := Tryd.underlying95
  a196 := Tryd.isAgg95
  z196 := Tryd.sizeOf95
  v196 := Tryd.zeroValue95
  t198 := Tryd.underlying98
  a198 := Tryd.isAgg98
  z198 := Tryd.sizeOf98
  v198 := Tryd.zeroValue98
  t201 := Tryd.underlying101
  a201 := Tryd.isAgg101
  z201 := Tryd.sizeOf101
  v201 := Tryd.zeroValue101
  t226 := Tryd.underlying131
  a226 := Tryd.isAgg131
  z226 := Tryd.sizeOf131
  v226 := Tryd.zeroValue131
  t227 := Tryd.underlying132
  a227 := Tryd.isAgg132
  z227 := Tryd.sizeOf132
  v227 := Tryd.zeroValue132
  g7 := by kernel_rfl
  g9 := by kernel_rfl
  i0 := by kernel_rfl
  i3 := by kernel_rfl
  i4 := by kernel_rfl
  i5 := by kernel_rfl
  i21 := by kernel_rfl
  i46 := by kernel_rfl
  i49 := by kernel_rfl
  i51 := by kernel_rfl
  i141 := by kernel_rfl
  i193 := by kernel_rfl
  i194 := by kernel_rfl
  i196 := by kernel_rfl
  i198 := by kernel_rfl
  i201 := by kernel_rfl
  i226 := by kernel_rfl
  i227 := by kernel_rfl
  m7 := by kernel_rfl
  m9 := by kernel_rfl }
open Go.RowKit Go.Lib in
theorem Tryd.unicode_IsUpper_laid (c : Nat) (w : World) (hc : c < 256) (htab : Lib.TabIs Tryd.prog w "unicode.properties" .u8 Lib.propertiesTab) :
    Calls Tryd.prog 17 #[.int .i32 c] w fun e w' => e = .returned (.bool (Lib.isUpperL c)) ∧ w' = w := Any.unicode_IsUpper_laid Tryd.laysM201 c w hc htab
def Tryd.laysM202_ren : Go.Shelf.Ren := ⟨fun | 202 => 16 | 261 => 30 | 311 => 41 | 312 => 42 | n => n, fun | 21 => 21 | 4 => 4 | 51 => 80 | 5 => 5 | 119 => 75 | 0 => 0 | 141 => 82 | 196 => 95 | 193 => 92 | 3 => 3 | 198 => 98 | 49 => 96 | 194 => 93 | 201 => 101 | 226 => 131 | 46 => 79 | 227 => 132 | n => n, fun | 7 => 2 | 10 => 3 | n => n⟩
theorem Tryd.laysM202 : Go.Proofs.LaysM.n202 Tryd.prog Tryd.laysM202_ren := {
  mixed := by kernel_rfl
  f202 := Tryd.func16.trans (congrArg some (by kernel_rfl))
  f261 := Tryd.func30.trans (congrArg some (by kernel_rfl))
  f311 := Tryd.func41.trans (congrArg some (by kernel_rfl))
  f312 := Tryd.func42.trans (congrArg some (by kernel_rfl))
  t0 := Tryd.underlying0
  a0 := Tryd.isAgg0
  z0 := Tryd.sizeOf0
  v0 := Tryd.zeroValue0
  t3 := Tryd.underlying3
  a3 := Tryd.isAgg3
  z3 := Tryd.sizeOf3
  v3 := Tryd.zeroValue3
  t4 := Tryd.underlying4
  a4 := Tryd.isAgg4
  z4 := Tryd.sizeOf4
  v4 := Tryd.zeroValue4
  t5 := Tryd.underlying5
  a5 := Tryd.isAgg5
  z5 := Tryd.sizeOf5
  v5 := Tryd.zeroValue5
  t21 := Tryd.underlying21
  a21 := Tryd.isAgg21
  z21 := Tryd.sizeOf21
  v21 := Tryd.zeroValue21
  t46 := Tryd.underlying79
  a46 := Tryd.isAgg79
  z46 := Tryd.sizeOf79
  v46 := Tryd.zeroValue79
  t49 := Tryd.underlying96
  a49 := Tryd.isAgg96
  z49 := Tryd.sizeOf96
  v49 := Tryd.zeroValue96
  t51 := Tryd.underlying80
  a51 := Tryd.isAgg80
  z51 := Tryd.sizeOf80
  v51 := Tryd.zeroValue80
  t119 := Tryd.underlying75
  a119 := Tryd.isAgg75
  z119 := Tryd.sizeOf75
  t141 := Tryd.underlying82
  a141 := Tryd.isAgg82
  z141 := Tryd.sizeOf82
  v141 := Tryd.zeroValue82
  t193 := Tryd.underlying92
  a193 := Tryd.isAgg92
  z193 := Tryd.sizeOf92
  v193 := Tryd.zeroValue92
  t194 := Tryd.underlying93
  a194 := Tryd.isAgg93
  z194 := Tryd.sizeOf93
  v194 := Tryd.zeroValue93
  t196 := Tryd.underlying95
  a196 := Tryd.isAgg95
  z196 := Tryd.sizeOf95
  v196 := Tryd.zeroValue95
  t198 := Tryd.underlying98
  a198 := Tryd.isAgg98
  z198 := Tryd.sizeOf98
  v198 := Tryd.zeroValue98
  t201 := Tryd.underlying101
  a201 := Tryd.isAgg101
  z201 := Tryd.sizeOf101
  v201 := Tryd.zeroValue101
  t226 := Tryd.underlying131
  a226 := Tryd.isAgg131
  z226 := Tryd.sizeOf131
  v226 := Tryd.zeroValue131
  t227 := Tryd.underlying132
  a227 := Tryd.isAgg132
  z227 := Tryd.sizeOf132
  v227 := Tryd.zeroValue132
  g7 := by kernel_rfl
  g10 := by kernel_rfl
  i0 := by kernel_rfl
  i3 := by kernel_rfl
  i4 := by kernel_rfl
  i5 := by kernel_rfl
  i21 := by kernel_rfl
  i46 := by kernel_rfl
  i49 := by kernel_rfl
  i51 := by kernel_rfl
  i141 := by kernel_rfl
  i193 := by kernel_rfl
  i194 := by kernel_rfl
  i196 := by kernel_rfl
  i198 := by kernel_rfl
  i201 := by kernel_rfl
  i226 := by kernel_rfl
  i227 := by kernel_rfl
  m7 := by kernel_rfl
  m10 := by kernel_rfl }
open Go.RowKit Go.Lib in
theorem Tryd.unicode_IsLower_laid (c : Nat) (w : World) (hc : c < 256) (htab : Lib.TabIs Tryd.prog w "unicode.properties" .u8 Lib.propertiesTab) :
    Calls Tryd.prog 16 #[.int .i32 c] w fun e w' => e = .returned (.bool (Lib.isLowerL c)) ∧ w' = w := Any.unicode_IsLower_laid Tryd.laysM202 c w hc htab
def Tryd.lays197_ren : Go.Shelf.Ren := ⟨fun | 197 => 45 | 260 => 68 | n => n, fun | 9 => 9 | 21 => 21 | 3 => 3 | 4 => 4 | 5 => 5 | 105 => 104 | 119 => 75 | 0 => 0 | 46 => 79 | 139 => 78 | 138 => 77 | n => n, fun | 3 => 0 | 4 => 1 | n => n⟩
theorem Tryd.lays197 : Go.Proofs.Lays.n197 Tryd.prog Tryd.lays197_ren := {
  mixed := by kernel_rfl
  f197 := Tryd.func45.trans (congrArg some (by kernel_rfl))
  f260 := Tryd.func68.trans (congrArg some (by kernel_rfl))
  t0 := Tryd.underlying0
  a0 := Tryd.isAgg0
  z0 := Tryd.sizeOf0
  v0 := Tryd.zeroValue0
  t3 := Tryd.underlying3
  a3 := Tryd.isAgg3
  z3 := Tryd.sizeOf3
  v3 := Tryd.zeroValue3
  t4 := Tryd.underlying4
  a4 := Tryd.isAgg4
  z4 := Tryd.sizeOf4
  v4 := Tryd.zeroValue4
  t5 := Tryd.underlying5
  a5 := Tryd.isAgg5
  z5 := Tryd.sizeOf5
  v5 := Tryd.zeroValue5
  t9 := Tryd.underlying9
  a9 := Tryd.isAgg9
  z9 := Tryd.sizeOf9
  v9 := Tryd.zeroValue9
  t21 := Tryd.underlying21
  a21 := Tryd.isAgg21
  z21 := Tryd.sizeOf21
  v21 := Tryd.zeroValue21
  t46 := Tryd.underlying79
  a46 := Tryd.isAgg79
  z46 := Tryd.sizeOf79
  v46 := Tryd.zeroValue79
  t105 := Tryd.underlying104
  a105 := Tryd.isAgg104
  z105 := Tryd.sizeOf104
  v105 := Tryd.zeroValue104
  t119 := Tryd.underlying75
  a119 := Tryd.isAgg75
  z119 := Tryd.sizeOf75
  t138 := Tryd.underlying77
  a138 := Tryd.isAgg77
  z138 := Tryd.sizeOf77
  v138 := Tryd.zeroValue77
  t139 := Tryd.underlying78
  a139 := Tryd.isAgg78
  z139 := Tryd.sizeOf78
  v139 := Tryd.zeroValue78
  g3 := by kernel_rfl
  g4 := by kernel_rfl }
open Go.RowKit Go.Lib in
theorem Tryd.utf8_DecodeRuneInString_ascii (s : ByteArray) (x : UInt8) (w : World) (h0 : s.data.toList[0]? = some x) (hx : x.toNat < 128) :
    Calls Tryd.prog 45 #[.string s] w fun e w' => e = .returned (.tuple #[.int .i32 x.toNat, .int .i64 1]) ∧ w' = w := Any.utf8_DecodeRuneInString_ascii Tryd.lays197 s x w h0 hx
def Tryd.lays260_ren : Go.Shelf.Ren := ⟨fun | 260 => 68 | n => n, fun | 9 => 9 | 21 => 21 | 3 => 3 | 4 => 4 | 5 => 5 | 119 => 75 | 0 => 0 | 46 => 79 | 139 => 78 | 138 => 77 | n => n, fun | 3 => 0 | 4 => 1 | n => n⟩
theorem Tryd.lays260 : Go.Proofs.Lays.n260 Tryd.prog Tryd.lays260_ren := {
  mixed := by kernel_rfl
  f260 := Tryd.func68.trans (congrArg some (by kernel_rfl))
  t0 := Tryd.underlying0
  a0 := Tryd.isAgg0
  z0 := Tryd.sizeOf0
  v0 := Tryd.zeroValue0
  t3 := Tryd.underlying3
  a3 := Tryd.isAgg3
  z3 := Tryd.sizeOf3
  v3 := Tryd.zeroValue3
  t4 := Tryd.underlying4
  a4 := Tryd.isAgg4
  z4 := Tryd.sizeOf4
  v4 := Tryd.zeroValue4
  t5 := Tryd.underlying5
  a5 := Tryd.isAgg5
  z5 := Tryd.sizeOf5
  v5 := Tryd.zeroValue5
  t9 := Tryd.underlying9
  a9 := Tryd.isAgg9
  z9 := Tryd.sizeOf9
  v9 := Tryd.zeroValue9
  t21 := Tryd.underlying21
  a21 := Tryd.isAgg21
  z21 := Tryd.sizeOf21
  v21 := Tryd.zeroValue21
  t46 := Tryd.underlying79
  a46 := Tryd.isAgg79
  z46 := Tryd.sizeOf79
  v46 := Tryd.zeroValue79
  t119 := Tryd.underlying75
  a119 := Tryd.isAgg75
  z119 := Tryd.sizeOf75
  t138 := Tryd.underlying77
  a138 := Tryd.isAgg77
  z138 := Tryd.sizeOf77
  v138 := Tryd.zeroValue77
  t139 := Tryd.underlying78
  a139 := Tryd.isAgg78
  z139 := Tryd.sizeOf78
  v139 := Tryd.zeroValue78
  g3 := by kernel_rfl
  g4 := by kernel_rfl }
open Go.RowKit Go.Lib in
theorem Tryd.utf8_decodeRuneInStringSlow (s : ByteArray) (w : World) (hT : Lib.Utf8Tabs 0 1 w) :
    Calls Tryd.prog 68 #[.string s] w fun e w' => e = .returned (.tuple #[.int .i32 (Lib.decodeGo s).1, .int .i64 (Lib.decodeGo s).2]) ∧ Below w.heap.size w w' := Any.utf8_decodeRuneInStringSlow Tryd.lays260 s w hT
open Go.RowKit Go.Lib in
theorem Tryd.utf8_DecodeRuneInString (s : ByteArray) (w : World) (hT : Lib.Utf8Tabs 0 1 w) :
    Calls Tryd.prog 45 #[.string s] w fun e w' => e = .returned (.tuple #[.int .i32 (Lib.decodeGo s).1, .int .i64 (Lib.decodeGo s).2]) ∧ Below w.heap.size w w' := Any.utf8_DecodeRuneInString Tryd.lays197 s w hT
def Tryd.lays311_ren : Go.Shelf.Ren := ⟨fun | 311 => 41 | n => n, fun | 193 => 92 | 49 => 96 | 4 => 4 | 3 => 3 | 0 => 0 | 226 => 131 | 198 => 98 | 46 => 79 | n => n, fun | n => n⟩
theorem Tryd.lays311 : Go.Proofs.Lays.n311 Tryd.prog Tryd.lays311_ren := {
  mixed := by kernel_rfl
  f311 := Tryd.func41.trans (congrArg some (by kernel_rfl))
  t0 := Tryd.underlying0
  a0 := Tryd.isAgg0
  z0 := Tryd.sizeOf0
  v0 := Tryd.zeroValue0
  t3 := Tryd.underlying3
  a3 := Tryd.isAgg3
  z3 := Tryd.sizeOf3
  v3 := Tryd.zeroValue3
  t4 := Tryd.underlying4
  a4 := Tryd.isAgg4
  z4 := Tryd.sizeOf4
  v4 := Tryd.zeroValue4
  t46 := Tryd.underlying79
  a46 := Tryd.isAgg79
  z46 := Tryd.sizeOf79
  v46 := Tryd.zeroValue79
  t49 := Tryd.underlying96
  a49 := Tryd.isAgg96
  z49 := Tryd.sizeOf96
  v49 := Tryd.zeroValue96
  t193 := Tryd.underlying92
  a193 := Tryd.isAgg92
  z193 := Tryd.sizeOf92
  v193 := Tryd.zeroValue92
  t198 := Tryd.underlying98
  a198 := Tryd.isAgg98
  z198 := Tryd.sizeOf98
  v198 := Tryd.zeroValue98
  t226 := Tryd.underlying131
  a226 := Tryd.isAgg131
  z226 := Tryd.sizeOf131
  v226 := Tryd.zeroValue131 }
open Go.RowKit Go.Lib in
theorem Tryd.unicode_is16_white (R oR : Nat) (z : Nat) (w : World) (hz : z < 65536) (hz0 : 255 < z) (c6 : w.cell? ⟨R, oR + 6, none⟩ = some (.int .u16 160)) (c7 : w.cell? ⟨R, oR + 7, none⟩ = some (.int .u16 5760)) (c8 : w.cell? ⟨R, oR + 8, none⟩ = some (.int .u16 5600)) (c9 : w.cell? ⟨R, oR + 9, none⟩ = some (.int .u16 8192)) (c10 : w.cell? ⟨R, oR + 10, none⟩ = some (.int .u16 8202)) (c11 : w.cell? ⟨R, oR + 11, none⟩ = some (.int .u16 1)) (c12 : w.cell? ⟨R, oR + 12, none⟩ = some (.int .u16 8232)) (c13 : w.cell? ⟨R, oR + 13, none⟩ = some (.int .u16 8233)) (c14 : w.cell? ⟨R, oR + 14, none⟩ = some (.int .u16 1)) (c15 : w.cell? ⟨R, oR + 15, none⟩ = some (.int .u16 8239)) (c16 : w.cell? ⟨R, oR + 16, none⟩ = some (.int .u16 8287)) (c17 : w.cell? ⟨R, oR + 17, none⟩ = some (.int .u16 48)) (c18 : w.cell? ⟨R, oR + 18, none⟩ = some (.int .u16 12288)) (c19 : w.cell? ⟨R, oR + 19, none⟩ = some (.int .u16 12288)) (c20 : w.cell? ⟨R, oR + 20, none⟩ = some (.int .u16 1)) :
    Calls Tryd.prog 41 #[.slice (some ⟨R, oR + 6, none⟩) 5 5, .int .u16 z] w fun e w' => e = .returned (.bool (Lib.isSpaceR z)) ∧ Below w.heap.size w w' := Any.unicode_is16_white Tryd.lays311 R oR z w hz hz0 c6 c7 c8 c9 c10 c11 c12 c13 c14 c15 c16 c17 c18 c19 c20
def Tryd.lays261_ren : Go.Shelf.Ren := ⟨fun | 261 => 30 | 311 => 41 | 312 => 42 | n => n, fun | 141 => 82 | 21 => 21 | 4 => 4 | 0 => 0 | 196 => 95 | 193 => 92 | 3 => 3 | 51 => 80 | 198 => 98 | 49 => 96 | 194 => 93 | 201 => 101 | 226 => 131 | 46 => 79 | 227 => 132 | n => n, fun | n => n⟩
theorem Tryd.lays261 : Go.Proofs.Lays.n261 Tryd.prog Tryd.lays261_ren := {
  mixed := by kernel_rfl
  f261 := Tryd.func30.trans (congrArg some (by kernel_rfl))
  f311 := Tryd.func41.trans (congrArg some (by kernel_rfl))
  f312 := Tryd.func42.trans (congrArg some (by kernel_rfl))
  t0 := Tryd.underlying0
  a0 := Tryd.isAgg0
  z0 := Tryd.sizeOf0
  v0 := Tryd.zeroValue0
  t3 := Tryd.underlying3
  a3 := Tryd.isAgg3
  z3 := Tryd.sizeOf3
  v3 := Tryd.zeroValue3
  t4 := Tryd.underlying4
  a4 := Tryd.isAgg4
  z4 := Tryd.sizeOf4
  v4 := Tryd.zeroValue4
  t21 := Tryd.underlying21
  a21 := Tryd.isAgg21
  z21 := Tryd.sizeOf21
  v21 := Tryd.zeroValue21
  t46 := Tryd.underlying79
  a46 := Tryd.isAgg79
  z46 := Tryd.sizeOf79
  v46 := Tryd.zeroValue79
  t49 := Tryd.underlying96
  a49 := Tryd.isAgg96
  z49 := Tryd.sizeOf96
  v49 := Tryd.zeroValue96
  t51 := Tryd.underlying80
  a51 := Tryd.isAgg80
  z51 := Tryd.sizeOf80
  v51 := Tryd.zeroValue80
  t141 := Tryd.underlying82
  a141 := Tryd.isAgg82
  z141 := Tryd.sizeOf82
  v141 := Tryd.zeroValue82
  t193 := Tryd.underlying92
  a193 := Tryd.isAgg92
  z193 := Tryd.sizeOf92
  v193 := Tryd.zeroValue92
  t194 := Tryd.underlying93
  a194 := Tryd.isAgg93
  z194 := Tryd.sizeOf93
  v194 := Tryd.zeroValue93
  t196 := Tryd.underlying95
  a196 := Tryd.isAgg95
  z196 := Tryd.sizeOf95
  v196 := Tryd.zeroValue95
  t198 := Tryd.underlying98
  a198 := Tryd.isAgg98
  z198 := Tryd.sizeOf98
  v198 := Tryd.zeroValue98
  t201 := Tryd.underlying101
  a201 := Tryd.isAgg101
  z201 := Tryd.sizeOf101
  v201 := Tryd.zeroValue101
  t226 := Tryd.underlying131
  a226 := Tryd.isAgg131
  z226 := Tryd.sizeOf131
  v226 := Tryd.zeroValue131
  t227 := Tryd.underlying132
  a227 := Tryd.isAgg132
  z227 := Tryd.sizeOf132
  v227 := Tryd.zeroValue132 }
open Go.RowKit Go.Lib in
theorem Tryd.unicode_isExcludingLatin_white (T oT R oR : Nat) (r : Int) (w : World) (hlo : -2147483648 ≤ r) (hhi : r ≤ 2147483647) (hr : r < 0 ∨ 255 < r) (h2 : w.cell? ⟨T, oT, none⟩ = some (.slice (some ⟨R, oR, none⟩) 7 7)) (h3 : w.cell? ⟨T, oT + 1, none⟩ = some (.slice none 0 0)) (h4 : w.cell? ⟨T, oT + 2, none⟩ = some (.int .i64 2)) (h5 : ∀ i, i < 21 → w.cell? ⟨R, oR + i, none⟩ = some (.int .u16 (whiteT.getD i 0))) :
    Calls Tryd.prog 30 #[.pointer (some ⟨T, oT, none⟩), .int .i32 r] w fun e w' => e = .returned (.bool (Lib.isSpaceZ r)) ∧ Below w.heap.size w w' := Any.unicode_isExcludingLatin_white Tryd.lays261 T oT R oR r w hlo hhi hr h2 h3 h4 h5
open Go.RowKit Go.Lib in
theorem Tryd.unicode_IsSpace_any (r : Int) (w : World) (hlo : -2147483648 ≤ r) (hhi : r ≤ 2147483647) (hW : Lib.WhiteTab 7 w) :
    Calls Tryd.prog 32 #[.int .i32 r] w fun e w' => e = .returned (.bool (Lib.isSpaceZ r)) ∧ Below w.heap.size w w' := Any.unicode_IsSpace_any Tryd.lays199 r w hlo hhi hW
def Tryd.lays271_ren : Go.Shelf.Ren := ⟨fun | 271 => 67 | 120 => 87 | 197 => 45 | 260 => 68 | n => n, fun | 9 => 9 | 21 => 21 | 3 => 3 | 4 => 4 | 5 => 5 | 105 => 104 | 119 => 75 | 0 => 0 | 46 => 79 | 139 => 78 | 138 => 77 | n => n, fun | 3 => 0 | 4 => 1 | n => n⟩
theorem Tryd.lays271 : Go.Proofs.Lays.n271 Tryd.prog Tryd.lays271_ren := {
  mixed := by kernel_rfl
  f120 := Tryd.func87.trans (congrArg some (by kernel_rfl))
  f197 := Tryd.func45.trans (congrArg some (by kernel_rfl))
  f260 := Tryd.func68.trans (congrArg some (by kernel_rfl))
  f271 := Tryd.func67.trans (congrArg some (by kernel_rfl))
  t0 := Tryd.underlying0
  a0 := Tryd.isAgg0
  z0 := Tryd.sizeOf0
  v0 := Tryd.zeroValue0
  t3 := Tryd.underlying3
  a3 := Tryd.isAgg3
  z3 := Tryd.sizeOf3
  v3 := Tryd.zeroValue3
  t4 := Tryd.underlying4
  a4 := Tryd.isAgg4
  z4 := Tryd.sizeOf4
  v4 := Tryd.zeroValue4
  t5 := Tryd.underlying5
  a5 := Tryd.isAgg5
  z5 := Tryd.sizeOf5
  v5 := Tryd.zeroValue5
  t9 := Tryd.underlying9
  a9 := Tryd.isAgg9
  z9 := Tryd.sizeOf9
  v9 := Tryd.zeroValue9
  t21 := Tryd.underlying21
  a21 := Tryd.isAgg21
  z21 := Tryd.sizeOf21
  v21 := Tryd.zeroValue21
  t46 := Tryd.underlying79
  a46 := Tryd.isAgg79
  z46 := Tryd.sizeOf79
  v46 := Tryd.zeroValue79
  t105 := Tryd.underlying104
  a105 := Tryd.isAgg104
  z105 := Tryd.sizeOf104
  v105 := Tryd.zeroValue104
  t119 := Tryd.underlying75
  a119 := Tryd.isAgg75
  z119 := Tryd.sizeOf75
  t138 := Tryd.underlying77
  a138 := Tryd.isAgg77
  z138 := Tryd.sizeOf77
  v138 := Tryd.zeroValue77
  t139 := Tryd.underlying78
  a139 := Tryd.isAgg78
  z139 := Tryd.sizeOf78
  v139 := Tryd.zeroValue78
  g3 := by kernel_rfl
  g4 := by kernel_rfl }
open Go.RowKit Go.Lib in
theorem Tryd.utf8_DecodeLastRuneInString (s : ByteArray) (w : World) (hs : s.size ≤ 9223372036854775807) (hT : Lib.Utf8Tabs 0 1 w) :
    Calls Tryd.prog 67 #[.string s] w fun e w' => e = .returned (.tuple #[.int .i32 (Lib.decodeLastL s.data.toList).1, .int .i64 (Lib.decodeLastL s.data.toList).2]) ∧ Below w.heap.size w w' := Any.utf8_DecodeLastRuneInString Tryd.lays271 s w hs hT
def Tryd.lays274_ren : Go.Shelf.Ren := ⟨fun | 274 => 70 | n => n, fun | 21 => 21 | 162 => 140 | 160 => 138 | 3 => 3 | 4 => 4 | 46 => 79 | 0 => 0 | 208 => 161 | 51 => 80 | 206 => 159 | n => n, fun | n => n⟩
theorem Tryd.lays274 : Go.Proofs.Lays.n274 Tryd.prog Tryd.lays274_ren := {
  mixed := by kernel_rfl
  f274 := Tryd.func70.trans (congrArg some (by kernel_rfl))
  t0 := Tryd.underlying0
  a0 := Tryd.isAgg0
  z0 := Tryd.sizeOf0
  v0 := Tryd.zeroValue0
  t3 := Tryd.underlying3
  a3 := Tryd.isAgg3
  z3 := Tryd.sizeOf3
  v3 := Tryd.zeroValue3
  t4 := Tryd.underlying4
  a4 := Tryd.isAgg4
  z4 := Tryd.sizeOf4
  v4 := Tryd.zeroValue4
  t21 := Tryd.underlying21
  a21 := Tryd.isAgg21
  z21 := Tryd.sizeOf21
  v21 := Tryd.zeroValue21
  t46 := Tryd.underlying79
  a46 := Tryd.isAgg79
  z46 := Tryd.sizeOf79
  v46 := Tryd.zeroValue79
  t51 := Tryd.underlying80
  a51 := Tryd.isAgg80
  z51 := Tryd.sizeOf80
  v51 := Tryd.zeroValue80
  t160 := Tryd.underlying138
  a160 := Tryd.isAgg138
  z160 := Tryd.sizeOf138
  v160 := Tryd.zeroValue138
  t162 := Tryd.underlying140
  a162 := Tryd.isAgg140
  z162 := Tryd.sizeOf140
  v162 := Tryd.zeroValue140
  t208 := Tryd.underlying161
  a208 := Tryd.isAgg161
  z208 := Tryd.sizeOf161
  v208 := Tryd.zeroValue161 }
open Go.RowKit Go.Lib in
theorem Tryd.unicode_lookupCaseRange (T : Array CaseRow) (R oR cap : Nat) (r : Int) (w : World) (hT : CaseTab R oR T w) (hok : CaseOk T) (hn : T.size ≤ 1000000000) :
    Calls Tryd.prog 70 #[.int .i32 r, .slice (some ⟨R, oR, none⟩) T.size cap] w fun e w' =>
      e = .returned (match lookupIdx T r (T.size + 1) 0 T.size with | some i => .pointer (some ⟨R, oR + i * 5, none⟩) | none => .pointer none) ∧ w' = w := Any.unicode_lookupCaseRange Tryd.lays274 T R oR cap r w hT hok hn
def Tryd.lays275_ren : Go.Shelf.Ren := ⟨fun | 275 => 71 | n => n, fun | 3 => 3 | 21 => 21 | 160 => 138 | 0 => 0 | 208 => 161 | 206 => 159 | 4 => 4 | 51 => 80 | n => n, fun | n => n⟩
theorem Tryd.lays275 : Go.Proofs.Lays.n275 Tryd.prog Tryd.lays275_ren := {
  mixed := by kernel_rfl
  f275 := Tryd.func71.trans (congrArg some (by kernel_rfl))
  t0 := Tryd.underlying0
  a0 := Tryd.isAgg0
  z0 := Tryd.sizeOf0
  v0 := Tryd.zeroValue0
  t3 := Tryd.underlying3
  a3 := Tryd.isAgg3
  z3 := Tryd.sizeOf3
  v3 := Tryd.zeroValue3
  t4 := Tryd.underlying4
  a4 := Tryd.isAgg4
  z4 := Tryd.sizeOf4
  v4 := Tryd.zeroValue4
  t21 := Tryd.underlying21
  a21 := Tryd.isAgg21
  z21 := Tryd.sizeOf21
  v21 := Tryd.zeroValue21
  t51 := Tryd.underlying80
  a51 := Tryd.isAgg80
  z51 := Tryd.sizeOf80
  v51 := Tryd.zeroValue80
  t160 := Tryd.underlying138
  a160 := Tryd.isAgg138
  z160 := Tryd.sizeOf138
  v160 := Tryd.zeroValue138
  t206 := Tryd.underlying159
  a206 := Tryd.isAgg159
  z206 := Tryd.sizeOf159
  v206 := Tryd.zeroValue159
  t208 := Tryd.underlying161
  a208 := Tryd.isAgg161
  z208 := Tryd.sizeOf161
  v208 := Tryd.zeroValue161 }
open Go.RowKit Go.Lib in
theorem Tryd.unicode_convertCase (c : Nat) (hc : c < 3) (r : Int) (A o : Nat) (x : CaseRow) (w : World) (hlo : (x.1 : Int) ≤ r) (hhi : r ≤ (x.2.1 : Int)) (hH : x.2.1 < 2147483647) (c0 : w.cell? ⟨A, o, none⟩ = some (.int .u32 x.1)) (cD : w.cell? ⟨A, o + 2 + c, none⟩ = some (.int .i32 (x.delta c))) :
    Calls Tryd.prog 71 #[.int .i64 c, .int .i32 r, .pointer (some ⟨A, o, none⟩)] w fun e w' => e = .returned (.int .i32 (wrap32 (convertR c r x))) ∧ ∃ q, w' = w.drewN q := Any.unicode_convertCase Tryd.lays275 c hc r A o x w hlo hhi hH c0 cD
def Tryd.lays313_ren : Go.Shelf.Ren := ⟨fun | 313 => 94 | 274 => 70 | 275 => 71 | n => n, fun | 3 => 3 | 21 => 21 | 162 => 140 | 4 => 4 | 160 => 138 | 46 => 79 | 0 => 0 | 208 => 161 | 51 => 80 | 206 => 159 | n => n, fun | n => n⟩
theorem Tryd.lays313 : Go.Proofs.Lays.n313 Tryd.prog Tryd.lays313_ren := {
  mixed := by kernel_rfl
  f274 := Tryd.func70.trans (congrArg some (by kernel_rfl))
  f275 := Tryd.func71.trans (congrArg some (by kernel_rfl))
  f313 := Tryd.func94.trans (congrArg some (by kernel_rfl))
  t0 := Tryd.underlying0
  a0 := Tryd.isAgg0
  z0 := Tryd.sizeOf0
  v0 := Tryd.zeroValue0
  t3 := Tryd.underlying3
  a3 := Tryd.isAgg3
  z3 := Tryd.sizeOf3
  v3 := Tryd.zeroValue3
  t4 := Tryd.underlying4
  a4 := Tryd.isAgg4
  z4 := Tryd.sizeOf4
  v4 := Tryd.zeroValue4
  t21 := Tryd.underlying21
  a21 := Tryd.isAgg21
  z21 := Tryd.sizeOf21
  v21 := Tryd.zeroValue21
  t46 := Tryd.underlying79
  a46 := Tryd.isAgg79
  z46 := Tryd.sizeOf79
  v46 := Tryd.zeroValue79
  t51 := Tryd.underlying80
  a51 := Tryd.isAgg80
  z51 := Tryd.sizeOf80
  v51 := Tryd.zeroValue80
  t160 := Tryd.underlying138
  a160 := Tryd.isAgg138
  z160 := Tryd.sizeOf138
  v160 := Tryd.zeroValue138
  t162 := Tryd.underlying140
  a162 := Tryd.isAgg140
  z162 := Tryd.sizeOf140
  v162 := Tryd.zeroValue140
  t206 := Tryd.underlying159
  a206 := Tryd.isAgg159
  z206 := Tryd.sizeOf159
  v206 := Tryd.zeroValue159
  t208 := Tryd.underlying161
  a208 := Tryd.isAgg161
  z208 := Tryd.sizeOf161
  v208 := Tryd.zeroValue161 }
open Go.RowKit Go.Lib in
theorem Tryd.unicode_to (c : Nat) (hc : c < 3) (r : Int) (T : Array CaseRow) (R oR cap : Nat) (w : World) (hT : CaseTab R oR T w) (hok : CaseOk2 T) (hn : T.size ≤ 1000000000) :
    Calls Tryd.prog 94 #[.int .i64 c, .int .i32 r, .slice (some ⟨R, oR, none⟩) T.size cap] w fun e w' => e = .returned (.tuple #[.int .i32 (toW T c r), .bool (lookupIdx T r (T.size + 1) 0 T.size).isSome]) ∧ ∃ q, w' = w.drewN q := Any.unicode_to Tryd.lays313 c hc r T R oR cap w hT hok hn
def Tryd.lays262_ren : Go.Shelf.Ren := ⟨fun | 262 => 86 | 313 => 94 | 274 => 70 | 275 => 71 | n => n, fun | 3 => 3 | 21 => 21 | 162 => 140 | 203 => 168 | 4 => 4 | 160 => 138 | 46 => 79 | 0 => 0 | 208 => 161 | 51 => 80 | 206 => 159 | n => n, fun | 13 => 10 | n => n⟩
theorem Tryd.lays262 : Go.Proofs.Lays.n262 Tryd.prog Tryd.lays262_ren := {
  mixed := by kernel_rfl
  f262 := Tryd.func86.trans (congrArg some (by kernel_rfl))
  f274 := Tryd.func70.trans (congrArg some (by kernel_rfl))
  f275 := Tryd.func71.trans (congrArg some (by kernel_rfl))
  f313 := Tryd.func94.trans (congrArg some (by kernel_rfl))
  t0 := Tryd.underlying0
  a0 := Tryd.isAgg0
  z0 := Tryd.sizeOf0
  v0 := Tryd.zeroValue0
  t3 := Tryd.underlying3
  a3 := Tryd.isAgg3
  z3 := Tryd.sizeOf3
  v3 := Tryd.zeroValue3
  t4 := Tryd.underlying4
  a4 := Tryd.isAgg4
  z4 := Tryd.sizeOf4
  v4 := Tryd.zeroValue4
  t21 := Tryd.underlying21
  a21 := Tryd.isAgg21
  z21 := Tryd.sizeOf21
  v21 := Tryd.zeroValue21
  t46 := Tryd.underlying79
  a46 := Tryd.isAgg79
  z46 := Tryd.sizeOf79
  v46 := Tryd.zeroValue79
  t51 := Tryd.underlying80
  a51 := Tryd.isAgg80
  z51 := Tryd.sizeOf80
  v51 := Tryd.zeroValue80
  t160 := Tryd.underlying138
  a160 := Tryd.isAgg138
  z160 := Tryd.sizeOf138
  v160 := Tryd.zeroValue138
  t162 := Tryd.underlying140
  a162 := Tryd.isAgg140
  z162 := Tryd.sizeOf140
  v162 := Tryd.zeroValue140
  t203 := Tryd.underlying168
  a203 := Tryd.isAgg168
  z203 := Tryd.sizeOf168
  v203 := Tryd.zeroValue168
  t206 := Tryd.underlying159
  a206 := Tryd.isAgg159
  z206 := Tryd.sizeOf159
  v206 := Tryd.zeroValue159
  t208 := Tryd.underlying161
  a208 := Tryd.isAgg161
  z208 := Tryd.sizeOf161
  v208 := Tryd.zeroValue161
  g13 := by kernel_rfl }
open Go.RowKit Go.Lib in
theorem Tryd.unicode_To (c : Nat) (hc : c < 3) (r : Int) (T : Array CaseRow) (w : World) (hV : CaseVar 10 T w) (hok : CaseOk2 T) (hn : T.size ≤ 1000000000) :
    Calls Tryd.prog 86 #[.int .i64 c, .int .i32 r] w fun e w' => e = .returned (.int .i32 (toW T c r)) ∧ ∃ q, w' = w.drewN q := Any.unicode_To Tryd.lays262 c hc r T w hV hok hn
open Go.RowKit Go.Lib in
theorem Tryd.unicode_ToLower_any (r : Int) (T : Array CaseRow) (w : World) (hV : CaseVar 10 T w) (hok : CaseOk2 T) (hn : T.size ≤ 1000000000) :
    Calls Tryd.prog 63 #[.int .i32 r] w fun e w' => e = .returned (.int .i32 (Lib.toLowerW T r)) ∧ ∃ q, w' = w.drewN q := Any.unicode_ToLower_any Tryd.lays204 r T w hV hok hn
open Go.RowKit Go.Lib in
theorem Tryd.unicode_ToLower_laid (r : Int) (w : World) (hV : CaseVar 10 caseA w) :
    Calls Tryd.prog 63 #[.int .i32 r] w fun e w' => e = .returned (.int .i32 (toLowerU r)) ∧ ∃ q, w' = w.drewN q := Any.unicode_ToLower_laid Tryd.lays204 r w hV
open Go.RowKit Go.Lib in
theorem Tryd.unicode_is16_any (T : Array Rg) (R oR cap : Nat) (z : Nat) (w : World) (hz : z < 65536) (hT : RgTab .u16 R oR T w) (hok : RgOk 65536 T) (hn : T.size ≤ 1000000000) :
    Calls Tryd.prog 41 #[.slice (some ⟨R, oR, none⟩) T.size cap, .int .u16 z] w fun e w' => e = .returned (.bool (is16Go T z)) ∧ ∃ q, w' = w.drewN q := Any.unicode_is16_any Tryd.lays311 T R oR cap z w hz hT hok hn
def Tryd.lays312_ren : Go.Shelf.Ren := ⟨fun | 312 => 42 | n => n, fun | 194 => 93 | 51 => 80 | 4 => 4 | 3 => 3 | 0 => 0 | 227 => 132 | 201 => 101 | 46 => 79 | n => n, fun | n => n⟩
theorem Tryd.lays312 : Go.Proofs.Lays.n312 Tryd.prog Tryd.lays312_ren := {
  mixed := by kernel_rfl
  f312 := Tryd.func42.trans (congrArg some (by kernel_rfl))
  t0 := Tryd.underlying0
  a0 := Tryd.isAgg0
  z0 := Tryd.sizeOf0
  v0 := Tryd.zeroValue0
  t3 := Tryd.underlying3
  a3 := Tryd.isAgg3
  z3 := Tryd.sizeOf3
  v3 := Tryd.zeroValue3
  t4 := Tryd.underlying4
  a4 := Tryd.isAgg4
  z4 := Tryd.sizeOf4
  v4 := Tryd.zeroValue4
  t46 := Tryd.underlying79
  a46 := Tryd.isAgg79
  z46 := Tryd.sizeOf79
  v46 := Tryd.zeroValue79
  t51 := Tryd.underlying80
  a51 := Tryd.isAgg80
  z51 := Tryd.sizeOf80
  v51 := Tryd.zeroValue80
  t194 := Tryd.underlying93
  a194 := Tryd.isAgg93
  z194 := Tryd.sizeOf93
  v194 := Tryd.zeroValue93
  t201 := Tryd.underlying101
  a201 := Tryd.isAgg101
  z201 := Tryd.sizeOf101
  v201 := Tryd.zeroValue101
  t227 := Tryd.underlying132
  a227 := Tryd.isAgg132
  z227 := Tryd.sizeOf132
  v227 := Tryd.zeroValue132 }
open Go.RowKit Go.Lib in
theorem Tryd.unicode_is32_any (T : Array Rg) (R oR cap : Nat) (z : Nat) (w : World) (hz : z < 4294967296) (hT : RgTab .u32 R oR T w) (hok : RgOk 4294967296 T) (hn : T.size ≤ 1000000000) :
    Calls Tryd.prog 42 #[.slice (some ⟨R, oR, none⟩) T.size cap, .int .u32 z] w fun e w' => e = .returned (.bool (is32Go T z)) ∧ Below w.heap.size w w' := Any.unicode_is32_any Tryd.lays312 T R oR cap z w hz hT hok hn
open Go.RowKit Go.Lib in
theorem Tryd.unicode_isExcludingLatin_any (Tb oT : Nat) (T : RTab) (r : Int) (w : World) (hlo : -2147483648 ≤ r) (hhi : r ≤ 2147483647) (hA : RTabAt Tb oT T w) (hok : RTabOk T) :
    Calls Tryd.prog 30 #[.pointer (some ⟨Tb, oT, none⟩), .int .i32 r] w fun e w' => e = .returned (.bool (exclGo T r)) ∧ Below w.heap.size w w' := Any.unicode_isExcludingLatin_any Tryd.lays261 Tb oT T r w hlo hhi hA hok
open Go.RowKit Go.Lib in
theorem Tryd.unicode_IsUpper_any (T : RTab) (r : Int) (w : World) (hlo : -2147483648 ≤ r) (hhi : r ≤ 2147483647) (htab : Lib.TabIs Tryd.prog w "unicode.properties" .u8 Lib.propertiesTab) (hV : RVar 4 T w) (hok : RTabOk T) :
    Calls Tryd.prog 17 #[.int .i32 r] w fun e w' => e = .returned (.bool (if latin1 r then isUpperL r else exclGo T r)) ∧ Below w.heap.size w w' := Any.unicode_IsUpper_any Tryd.lays201 (by kernel_rfl) T r w hlo hhi htab hV hok
open Go.RowKit Go.Lib in
theorem Tryd.unicode_IsLower_any (T : RTab) (r : Int) (w : World) (hlo : -2147483648 ≤ r) (hhi : r ≤ 2147483647) (htab : Lib.TabIs Tryd.prog w "unicode.properties" .u8 Lib.propertiesTab) (hV : RVar 3 T w) (hok : RTabOk T) :
    Calls Tryd.prog 16 #[.int .i32 r] w fun e w' => e = .returned (.bool (if latin1 r then isLowerL r else exclGo T r)) ∧ Below w.heap.size w w' := Any.unicode_IsLower_any Tryd.lays202 (by kernel_rfl) T r w hlo hhi htab hV hok
open Go.RowKit Go.Lib in
theorem Tryd.unicode_IsDigit_any (T : RTab) (r : Int) (w : World) (hlo : -2147483648 ≤ r) (hhi : r ≤ 2147483647) (hV : RVar 5 T w) (hok : RTabOk T) :
    Calls Tryd.prog 18 #[.int .i32 r] w fun e w' => e = .returned (.bool (if r ≤ 255 then isDigitL r else exclGo T r)) ∧ Below w.heap.size w w' := Any.unicode_IsDigit_any Tryd.lays198 T r w hlo hhi hV hok
open Go.RowKit Go.Lib in
theorem Tryd.strings_indexFunc_grows (g : Nat) (lb : Array Value) (eg : ∀ args w, (callFunc g args).run Tryd.prog w = .ok (.enter g args) w) (p : Nat → Bool) (truth : Bool) (s : ByteArray) (w : World) (hp : PredGrows Tryd.prog g lb p w) :
    Calls Tryd.prog 66 #[.string s, .func (.func g) #[] lb, .bool truth] w fun e w' => e = .returned (.int .i64 (Lib.idxFunc p truth s)) ∧ Below w.heap.size w w' := Any.strings_indexFunc_grows Tryd.lays315 g lb eg p truth s w hp
open Go.RowKit Go.Lib in
theorem Tryd.strings_lastIndexFunc_grows (g : Nat) (lb : Array Value) (eg : ∀ args w, (callFunc g args).run Tryd.prog w = .ok (.enter g args) w) (p : Nat → Bool) (truth : Bool) (s : ByteArray) (w : World) (hs : s.size ≤ 9223372036854775807) (hT : Lib.Utf8Tabs 0 1 w) (hp : PredGrows Tryd.prog g lb p w) :
    Calls Tryd.prog 44 #[.string s, .func (.func g) #[] lb, .bool truth] w fun e w' => e = .returned (.int .i64 (Lib.lastIdxFunc p truth s)) ∧ Below w.heap.size w w' := Any.strings_lastIndexFunc_grows Tryd.lays273 g lb eg p truth s w hs hT hp
open Go.RowKit Go.Lib in
theorem Tryd.strings_TrimLeftFunc_grows (g : Nat) (lb : Array Value) (eg : ∀ args w, (callFunc g args).run Tryd.prog w = .ok (.enter g args) w) (p : Nat → Bool) (s : ByteArray) (w : World) (hp : PredGrows Tryd.prog g lb p w) :
    Calls Tryd.prog 43 #[.string s, .func (.func g) #[] lb] w fun e w' => e = .returned (.string (Lib.trimLeftF p s)) ∧ Below w.heap.size w w' := Any.strings_TrimLeftFunc_grows Tryd.lays272 g lb eg p s w hp
open Go.RowKit Go.Lib in
theorem Tryd.strings_TrimRightFunc_grows (g : Nat) (lb : Array Value) (eg : ∀ args w, (callFunc g args).run Tryd.prog w = .ok (.enter g args) w) (p : Nat → Bool) (s : ByteArray) (w : World) (hs : s.size ≤ 9223372036854775807) (hT : Lib.Utf8Tabs 0 1 w) (hp : PredGrows Tryd.prog g lb p w) :
    Calls Tryd.prog 33 #[.string s, .func (.func g) #[] lb] w fun e w' => e = .returned (.string (Lib.trimRightF p s)) ∧ Below w.heap.size w w' := Any.strings_TrimRightFunc_grows Tryd.lays238 g lb eg p s w hs hT hp
open Go.RowKit Go.Lib in
theorem Tryd.strings_TrimFunc_grows (g : Nat) (lb : Array Value) (eg : ∀ args w, (callFunc g args).run Tryd.prog w = .ok (.enter g args) w) (p : Nat → Bool) (s : ByteArray) (w : World) (hs : s.size ≤ 9223372036854775807) (hT : Lib.Utf8Tabs 0 1 w) (hp : PredGrows Tryd.prog g lb p w) :
    Calls Tryd.prog 31 #[.string s, .func (.func g) #[] lb] w fun e w' => e = .returned (.string (Lib.trimF p s)) ∧ Below w.heap.size w w' := Any.strings_TrimFunc_grows Tryd.lays237 g lb eg p s w hs hT hp
open Go.RowKit Go.Lib in
theorem Tryd.unicode_IsUpper_all (r : Int) (w : World) (hlo : -2147483648 ≤ r) (hhi : r ≤ 2147483647) (htab : Lib.TabIs Tryd.prog w "unicode.properties" .u8 Lib.propertiesTab) (hV : RVar 4 upperT w) :
    Calls Tryd.prog 17 #[.int .i32 r] w fun e w' => e = .returned (.bool (isUpperU r)) ∧ Below w.heap.size w w' := Any.unicode_IsUpper_all Tryd.lays201 (by kernel_rfl) r w hlo hhi htab hV
open Go.RowKit Go.Lib in
theorem Tryd.unicode_IsLower_all (r : Int) (w : World) (hlo : -2147483648 ≤ r) (hhi : r ≤ 2147483647) (htab : Lib.TabIs Tryd.prog w "unicode.properties" .u8 Lib.propertiesTab) (hV : RVar 3 lowerT w) :
    Calls Tryd.prog 16 #[.int .i32 r] w fun e w' => e = .returned (.bool (isLowerU r)) ∧ Below w.heap.size w w' := Any.unicode_IsLower_all Tryd.lays202 (by kernel_rfl) r w hlo hhi htab hV
open Go.RowKit Go.Lib in
theorem Tryd.unicode_IsDigit_all (r : Int) (w : World) (hlo : -2147483648 ≤ r) (hhi : r ≤ 2147483647) (hV : RVar 5 digitT w) :
    Calls Tryd.prog 18 #[.int .i32 r] w fun e w' => e = .returned (.bool (isDigitU r)) ∧ Below w.heap.size w w' := Any.unicode_IsDigit_all Tryd.lays198 r w hlo hhi hV
end Go.Proofs
