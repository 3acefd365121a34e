/-
  Laid by the kit's own tool: contracts of Go's library at this translation. Conditions: each theorem's own.
-/
import Derived.Shelf.Strings.Builder1
import Derived.Shelf.Strings.Builder2
import Derived.Shelf.Strings.OnBuilder
import Derived.Shelf.Strings.TrimSpace
import Derived.Shelf.Small.Utf8
import Derived.Shelf.Small.Bits
import Derived.Shelf.Small.Wraps
import Derived.Shelf.Strings.BuilderF
import Derived.Shelf.Strings.BuilderK
import Derived.Shelf.Strings.BuilderRune
import Derived.Shelf.Utf8.AppendRune
import Derived.Shelf.Utf8.AppendRunePlain
import Derived.Shelf.Strings.Builder2Cap
import Derived.Shelf.Strconv.Itoa0
import Derived.Shelf.Sort.Plain
import Derived.Shelf.Unicode.Latin
import Derived.Shelf.Unicode.Decode
import Derived.Shelf.Unicode.DecodeSlow
import Derived.Shelf.Unicode.DecodeAny
import Derived.Shelf.Unicode.Is16White
import Derived.Shelf.Unicode.IsSpaceAny
import Derived.Shelf.Unicode.DecodeLast
import Derived.Shelf.Unicode.Is16Any
import Derived.Shelf.Unicode.Is32Any
import Derived.Shelf.Unicode.ExclAny
import Derived.Ground.Names2Prog
import Derived.Shelf.Slices.SearchI
import Derived.Shelf.Slices.In.SortNone
import Derived.Shelf.Slices.In.SortNone2
import Derived.Shelf.Bytes.SlSmallAll
import Derived.Shelf.Bytes.Small
import Derived.Test.YtehlfbhlaoiioaaGreatDoorRProg
namespace Go.Proofs
open Go.Shelf
def Tryz.lays169_ren : Go.Shelf.Ren := ⟨fun | 169 => 10 | n => n, fun | 70 => 31 | 9 => 9 | 0 => 0 | 72 => 34 | 37 => 32 | 127 => 92 | 3 => 3 | 5 => 5 | n => n, fun | n => n⟩
theorem Tryz.lays169 : Go.Proofs.Lays.n169 Tryz.prog Tryz.lays169_ren := {
  mixed := by kernel_rfl
  f169 := Tryz.func10.trans (congrArg some (by kernel_rfl))
  t0 := Tryz.underlying0
  a0 := Tryz.isAgg0
  z0 := Tryz.sizeOf0
  v0 := Tryz.zeroValue0
  t3 := Tryz.underlying3
  a3 := Tryz.isAgg3
  z3 := Tryz.sizeOf3
  v3 := Tryz.zeroValue3
  t9 := Tryz.underlying9
  a9 := Tryz.isAgg9
  z9 := Tryz.sizeOf9
  v9 := Tryz.zeroValue9
  t37 := Tryz.underlying32
  a37 := Tryz.isAgg32
  z37 := Tryz.sizeOf32
  v37 := Tryz.zeroValue32
  t70 := Tryz.underlying31
  a70 := Tryz.isAgg31
  z70 := Tryz.sizeOf31
  v70 := Tryz.zeroValue31
  t72 := Tryz.underlying34
  a72 := Tryz.isAgg34
  z72 := Tryz.sizeOf34
  v72 := Tryz.zeroValue34
  t127 := Tryz.underlying92
  a127 := Tryz.isAgg92
  z127 := Tryz.sizeOf92
  v127 := Tryz.zeroValue92 }
theorem Tryz.Builder_Extra_169 : Builder.Extra Tryz.prog Tryz.lays169_ren := {
  sizeBuilder := by kernel_rfl
  liesBuilder := by kernel_rfl
  t5 := Tryz.underlying5
  a5 := Tryz.isAgg5
  z5 := Tryz.sizeOf5
  v5 := Tryz.zeroValue5
  infoByte := by kernel_rfl
  cellsByte := by kernel_rfl
  sizeByte := by kernel_rfl
  neB5 := by decide }
open Go.RowKit in
theorem Tryz.Builder_String (B b : Nat) (l : List UInt8) (w : World) (h : Lib.IsBuilder 34 5 B b (Lib.byteCells l) w) (h0 : l ≠ []) :
    Calls Tryz.prog 10 #[.pointer (some ⟨b, 0, none⟩)] w fun e w' => e = .returned (.string ⟨l.toArray⟩) ∧ Below B w w' := Any.Builder_String Tryz.lays169 Tryz.Builder_Extra_169 B b l w h h0
open Go.RowKit in
theorem Tryz.Builder_String_empty (B b : Nat) (w : World) (h : Lib.IsBuilder 34 5 B b [] w) (hBw : B ≤ w.heap.size) :
    Calls Tryz.prog 10 #[.pointer (some ⟨b, 0, none⟩)] w fun e w' => e = .returned (.string ⟨#[]⟩) ∧ Below B w w' := Any.Builder_String_empty Tryz.lays169 Tryz.Builder_Extra_169 B b w h hBw
open Go.RowKit in
theorem Tryz.Builder_String_any (B b : Nat) (l : List UInt8) (w : World) (h : Lib.IsBuilder 34 5 B b (Lib.byteCells l) w) (hBw : B ≤ w.heap.size) :
    Calls Tryz.prog 10 #[.pointer (some ⟨b, 0, none⟩)] w fun e w' => e = .returned (.string ⟨l.toArray⟩) ∧ Below B w w' := Any.Builder_String_any Tryz.lays169 Tryz.Builder_Extra_169 B b l w h hBw
def Tryz.lays241_ren : Go.Shelf.Ren := ⟨fun | 241 => 98 | 277 => 117 | n => n, fun | 70 => 31 | 3 => 3 | 0 => 0 | 72 => 34 | 37 => 32 | 5 => 5 | n => n, fun | n => n⟩
theorem Tryz.lays241 : Go.Proofs.Lays.n241 Tryz.prog Tryz.lays241_ren := {
  mixed := by kernel_rfl
  f241 := Tryz.func98.trans (congrArg some (by kernel_rfl))
  f277 := Tryz.func117.trans (congrArg some (by kernel_rfl))
  t0 := Tryz.underlying0
  a0 := Tryz.isAgg0
  z0 := Tryz.sizeOf0
  v0 := Tryz.zeroValue0
  t3 := Tryz.underlying3
  a3 := Tryz.isAgg3
  z3 := Tryz.sizeOf3
  v3 := Tryz.zeroValue3
  t37 := Tryz.underlying32
  a37 := Tryz.isAgg32
  z37 := Tryz.sizeOf32
  v37 := Tryz.zeroValue32
  t70 := Tryz.underlying31
  a70 := Tryz.isAgg31
  z70 := Tryz.sizeOf31
  v70 := Tryz.zeroValue31
  t72 := Tryz.underlying34
  a72 := Tryz.isAgg34
  z72 := Tryz.sizeOf34
  v72 := Tryz.zeroValue34 }
theorem Tryz.Builder_Extra_241 : Builder.Extra Tryz.prog Tryz.lays241_ren := {
  sizeBuilder := by kernel_rfl
  liesBuilder := by kernel_rfl
  t5 := Tryz.underlying5
  a5 := Tryz.isAgg5
  z5 := Tryz.sizeOf5
  v5 := Tryz.zeroValue5
  infoByte := by kernel_rfl
  cellsByte := by kernel_rfl
  sizeByte := by kernel_rfl
  neB5 := by decide }
open Go.RowKit in
theorem Tryz.Builder_grow_fresh (B b n : Nat) (w : World) (hB : B ≤ b) (hbk : w.heap[b]? = some (.cells #[.pointer (some ⟨b, 0, none⟩), .slice none 0 0] 34 (0, 0))) (hBw : B ≤ w.heap.size) (hn : n ≤ 281474976710656) :
    Calls Tryz.prog 98 #[.pointer (some ⟨b, 0, none⟩), .int .i64 n] w fun e w' => e = .returned (.tuple #[]) ∧ (Lib.BuilderAt 34 5 B b (.pointer (some ⟨b, 0, none⟩)) [] w' ∧ Below B w w') := Any.Builder_grow_fresh Tryz.lays241 Tryz.Builder_Extra_241 B b n w hB hbk hBw hn
def Tryz.lays165_ren : Go.Shelf.Ren := ⟨fun | 165 => 84 | 240 => 18 | 241 => 98 | 276 => 25 | 277 => 117 | n => n, fun | 70 => 31 | 3 => 3 | 0 => 0 | 4 => 4 | 9 => 9 | 20 => 20 | 72 => 34 | 37 => 32 | 164 => 105 | 5 => 5 | n => n, fun | n => n⟩
theorem Tryz.lays165 : Go.Proofs.Lays.n165 Tryz.prog Tryz.lays165_ren := {
  mixed := by kernel_rfl
  f165 := Tryz.func84.trans (congrArg some (by kernel_rfl))
  f240 := Tryz.func18.trans (congrArg some (by kernel_rfl))
  f241 := Tryz.func98.trans (congrArg some (by kernel_rfl))
  f276 := Tryz.func25.trans (congrArg some (by kernel_rfl))
  f277 := Tryz.func117.trans (congrArg some (by kernel_rfl))
  t0 := Tryz.underlying0
  a0 := Tryz.isAgg0
  z0 := Tryz.sizeOf0
  v0 := Tryz.zeroValue0
  t3 := Tryz.underlying3
  a3 := Tryz.isAgg3
  z3 := Tryz.sizeOf3
  v3 := Tryz.zeroValue3
  t4 := Tryz.underlying4
  a4 := Tryz.isAgg4
  z4 := Tryz.sizeOf4
  v4 := Tryz.zeroValue4
  t9 := Tryz.underlying9
  a9 := Tryz.isAgg9
  z9 := Tryz.sizeOf9
  v9 := Tryz.zeroValue9
  t20 := Tryz.underlying20
  a20 := Tryz.isAgg20
  z20 := Tryz.sizeOf20
  v20 := Tryz.zeroValue20
  t37 := Tryz.underlying32
  a37 := Tryz.isAgg32
  z37 := Tryz.sizeOf32
  v37 := Tryz.zeroValue32
  t70 := Tryz.underlying31
  a70 := Tryz.isAgg31
  z70 := Tryz.sizeOf31
  v70 := Tryz.zeroValue31
  t72 := Tryz.underlying34
  a72 := Tryz.isAgg34
  z72 := Tryz.sizeOf34
  v72 := Tryz.zeroValue34
  t164 := Tryz.underlying105
  a164 := Tryz.isAgg105
  z164 := Tryz.sizeOf105
  v164 := Tryz.zeroValue105 }
theorem Tryz.Builder_Extra_165 : Builder.Extra Tryz.prog Tryz.lays165_ren := {
  sizeBuilder := by kernel_rfl
  liesBuilder := by kernel_rfl
  t5 := Tryz.underlying5
  a5 := Tryz.isAgg5
  z5 := Tryz.sizeOf5
  v5 := Tryz.zeroValue5
  infoByte := by kernel_rfl
  cellsByte := by kernel_rfl
  sizeByte := by kernel_rfl
  neB5 := by decide }
open Go.RowKit in
theorem Tryz.Builder_Grow_fresh (B b n : Nat) (w : World) (hB : B ≤ b) (hbk : w.heap[b]? = some (.cells #[.pointer none, .slice none 0 0] 34 (0, 0))) (hBw : B ≤ w.heap.size) (hn : n ≤ 281474976710656) :
    Calls Tryz.prog 84 #[.pointer (some ⟨b, 0, none⟩), .int .i64 n] w fun e w' => e = .returned (.tuple #[]) ∧ (Lib.BuilderAt 34 5 B b (.pointer (some ⟨b, 0, none⟩)) [] w' ∧ Below B w w') := Any.Builder_Grow_fresh Tryz.lays165 Tryz.Builder_Extra_165 B b n w hB hbk hBw hn
def Tryz.lays156_ren : Go.Shelf.Ren := ⟨fun | 156 => 60 | 165 => 84 | 166 => 14 | 169 => 10 | 240 => 18 | 241 => 98 | 276 => 25 | 277 => 117 | n => n, fun | 31 => 29 | 9 => 9 | 3 => 3 | 4 => 4 | 0 => 0 | 20 => 20 | 72 => 34 | 76 => 90 | 70 => 31 | 37 => 32 | 75 => 89 | 127 => 92 | 164 => 105 | 5 => 5 | 80 => 86 | n => n, fun | n => n⟩
theorem Tryz.lays156 : Go.Proofs.Lays.n156 Tryz.prog Tryz.lays156_ren := {
  mixed := by kernel_rfl
  f156 := Tryz.func60.trans (congrArg some (by kernel_rfl))
  f165 := Tryz.func84.trans (congrArg some (by kernel_rfl))
  f166 := Tryz.func14.trans (congrArg some (by kernel_rfl))
  f169 := Tryz.func10.trans (congrArg some (by kernel_rfl))
  f240 := Tryz.func18.trans (congrArg some (by kernel_rfl))
  f241 := Tryz.func98.trans (congrArg some (by kernel_rfl))
  f276 := Tryz.func25.trans (congrArg some (by kernel_rfl))
  f277 := Tryz.func117.trans (congrArg some (by kernel_rfl))
  t0 := Tryz.underlying0
  a0 := Tryz.isAgg0
  z0 := Tryz.sizeOf0
  v0 := Tryz.zeroValue0
  t3 := Tryz.underlying3
  a3 := Tryz.isAgg3
  z3 := Tryz.sizeOf3
  v3 := Tryz.zeroValue3
  t4 := Tryz.underlying4
  a4 := Tryz.isAgg4
  z4 := Tryz.sizeOf4
  v4 := Tryz.zeroValue4
  t9 := Tryz.underlying9
  a9 := Tryz.isAgg9
  z9 := Tryz.sizeOf9
  v9 := Tryz.zeroValue9
  t20 := Tryz.underlying20
  a20 := Tryz.isAgg20
  z20 := Tryz.sizeOf20
  v20 := Tryz.zeroValue20
  t31 := Tryz.underlying29
  a31 := Tryz.isAgg29
  z31 := Tryz.sizeOf29
  v31 := Tryz.zeroValue29
  t37 := Tryz.underlying32
  a37 := Tryz.isAgg32
  z37 := Tryz.sizeOf32
  v37 := Tryz.zeroValue32
  t70 := Tryz.underlying31
  a70 := Tryz.isAgg31
  z70 := Tryz.sizeOf31
  v70 := Tryz.zeroValue31
  t72 := Tryz.underlying34
  a72 := Tryz.isAgg34
  z72 := Tryz.sizeOf34
  v72 := Tryz.zeroValue34
  t75 := Tryz.underlying89
  a75 := Tryz.isAgg89
  z75 := Tryz.sizeOf89
  v75 := Tryz.zeroValue89
  t76 := Tryz.underlying90
  a76 := Tryz.isAgg90
  z76 := Tryz.sizeOf90
  v76 := Tryz.zeroValue90
  t127 := Tryz.underlying92
  a127 := Tryz.isAgg92
  z127 := Tryz.sizeOf92
  v127 := Tryz.zeroValue92
  t164 := Tryz.underlying105
  a164 := Tryz.isAgg105
  z164 := Tryz.sizeOf105
  v164 := Tryz.zeroValue105 }
theorem Tryz.Builder_Extra_156 : Builder.Extra Tryz.prog Tryz.lays156_ren := {
  sizeBuilder := by kernel_rfl
  liesBuilder := by kernel_rfl
  t5 := Tryz.underlying5
  a5 := Tryz.isAgg5
  z5 := Tryz.sizeOf5
  v5 := Tryz.zeroValue5
  infoByte := by kernel_rfl
  cellsByte := by kernel_rfl
  sizeByte := by kernel_rfl
  neB5 := by decide }
open Go.RowKit in
theorem Tryz.strings_Join_none (a : Option Addr) (c : Nat) (sep : ByteArray) (w : World) :
    Calls Tryz.prog 60 #[.slice a 0 c, .string sep] w fun e w' => e = .returned (.string ⟨#[]⟩) ∧ w' = w := Any.strings_Join_none Tryz.lays156 Tryz.Builder_Extra_156 a c sep w
open Go.RowKit in
theorem Tryz.strings_Join (bk o c : Nat) (xs : List ByteArray) (sep : ByteArray) (w : World) (hcells : ∀ (j : Nat) x, xs[j]? = some x → w.cell? ⟨bk, o + j, none⟩ = some (.string x)) (hbk : bk < w.heap.size) (hN : xs.length ≤ 140737488355328) (hcap : xs.length ≤ c) (hlen : (Lib.join (xs.map (·.data.toList)) sep.data.toList).length ≤ 140737488355328) :
    Calls Tryz.prog 60 #[.slice (some ⟨bk, o, none⟩) xs.length c, .string sep] w fun e w' => e = .returned (.string ⟨(Lib.join (xs.map (·.data.toList)) sep.data.toList).toArray⟩) ∧ Below w.heap.size w w' := Any.strings_Join Tryz.lays156 Tryz.Builder_Extra_156 bk o c xs sep w hcells hbk hN hcap hlen
def Tryz.lays163_ren : Go.Shelf.Ren := ⟨fun | 163 => 50 | 237 => 62 | 199 => 63 | 238 => 64 | 272 => 85 | 261 => 86 | 273 => 87 | 197 => 88 | 315 => 99 | 311 => 100 | 312 => 101 | 271 => 102 | 260 => 103 | 120 => 118 | n => n, fun | 9 => 9 | 37 => 32 | 3 => 3 | 0 => 0 | 5 => 5 | 4 => 4 | 40 => 111 | 119 => 134 | 21 => 21 | 51 => 117 | 141 => 160 | 105 => 162 | 196 => 180 | 193 => 177 | 198 => 183 | 49 => 181 | 194 => 178 | 201 => 186 | 226 => 201 | 46 => 122 | 227 => 202 | 139 => 206 | 138 => 205 | n => n, fun | 0 => 0 | 6 => 1 | 3 => 2 | 4 => 3 | n => n⟩
theorem Tryz.lays163 : Go.Proofs.Lays.n163 Tryz.prog Tryz.lays163_ren := {
  mixed := by kernel_rfl
  f120 := Tryz.func118.trans (congrArg some (by kernel_rfl))
  f163 := Tryz.func50.trans (congrArg some (by kernel_rfl))
  f197 := Tryz.func88.trans (congrArg some (by kernel_rfl))
  f199 := Tryz.func63.trans (congrArg some (by kernel_rfl))
  f237 := Tryz.func62.trans (congrArg some (by kernel_rfl))
  f238 := Tryz.func64.trans (congrArg some (by kernel_rfl))
  f260 := Tryz.func103.trans (congrArg some (by kernel_rfl))
  f261 := Tryz.func86.trans (congrArg some (by kernel_rfl))
  f271 := Tryz.func102.trans (congrArg some (by kernel_rfl))
  f272 := Tryz.func85.trans (congrArg some (by kernel_rfl))
  f273 := Tryz.func87.trans (congrArg some (by kernel_rfl))
  f311 := Tryz.func100.trans (congrArg some (by kernel_rfl))
  f312 := Tryz.func101.trans (congrArg some (by kernel_rfl))
  f315 := Tryz.func99.trans (congrArg some (by kernel_rfl))
  t0 := Tryz.underlying0
  a0 := Tryz.isAgg0
  z0 := Tryz.sizeOf0
  v0 := Tryz.zeroValue0
  t3 := Tryz.underlying3
  a3 := Tryz.isAgg3
  z3 := Tryz.sizeOf3
  v3 := Tryz.zeroValue3
  t4 := Tryz.underlying4
  a4 := Tryz.isAgg4
  z4 := Tryz.sizeOf4
  v4 := Tryz.zeroValue4
  t5 := Tryz.underlying5
  a5 := Tryz.isAgg5
  z5 := Tryz.sizeOf5
  v5 := Tryz.zeroValue5
  t9 := Tryz.underlying9
  a9 := Tryz.isAgg9
  z9 := Tryz.sizeOf9
  v9 := Tryz.zeroValue9
  t21 := Tryz.underlying21
  a21 := Tryz.isAgg21
  z21 := Tryz.sizeOf21
  v21 := Tryz.zeroValue21
  t37 := Tryz.underlying32
  a37 := Tryz.isAgg32
  z37 := Tryz.sizeOf32
  v37 := Tryz.zeroValue32
  t40 := Tryz.underlying111
  a40 := Tryz.isAgg111
  z40 := Tryz.sizeOf111
  v40 := Tryz.zeroValue111
  t46 := Tryz.underlying122
  a46 := Tryz.isAgg122
  z46 := Tryz.sizeOf122
  v46 := Tryz.zeroValue122
  t49 := Tryz.underlying181
  a49 := Tryz.isAgg181
  z49 := Tryz.sizeOf181
  v49 := Tryz.zeroValue181
  t51 := Tryz.underlying117
  a51 := Tryz.isAgg117
  z51 := Tryz.sizeOf117
  v51 := Tryz.zeroValue117
  t105 := Tryz.underlying162
  a105 := Tryz.isAgg162
  z105 := Tryz.sizeOf162
  v105 := Tryz.zeroValue162
  t119 := Tryz.underlying134
  a119 := Tryz.isAgg134
  z119 := Tryz.sizeOf134
  t138 := Tryz.underlying205
  a138 := Tryz.isAgg205
  z138 := Tryz.sizeOf205
  v138 := Tryz.zeroValue205
  t139 := Tryz.underlying206
  a139 := Tryz.isAgg206
  z139 := Tryz.sizeOf206
  v139 := Tryz.zeroValue206
  t141 := Tryz.underlying160
  a141 := Tryz.isAgg160
  z141 := Tryz.sizeOf160
  v141 := Tryz.zeroValue160
  t193 := Tryz.underlying177
  a193 := Tryz.isAgg177
  z193 := Tryz.sizeOf177
  v193 := Tryz.zeroValue177
  t194 := Tryz.underlying178
  a194 := Tryz.isAgg178
  z194 := Tryz.sizeOf178
  v194 := Tryz.zeroValue178
  t196 := Tryz.underlying180
  a196 := Tryz.isAgg180
  z196 := Tryz.sizeOf180
  v196 := Tryz.zeroValue180
  t198 := Tryz.underlying183
  a198 := Tryz.isAgg183
  z198 := Tryz.sizeOf183
  v198 := Tryz.zeroValue183
  t201 := Tryz.underlying186
  a201 := Tryz.isAgg186
  z201 := Tryz.sizeOf186
  v201 := Tryz.zeroValue186
  t226 := Tryz.underlying201
  a226 := Tryz.isAgg201
  z226 := Tryz.sizeOf201
  v226 := Tryz.zeroValue201
  t227 := Tryz.underlying202
  a227 := Tryz.isAgg202
  z227 := Tryz.sizeOf202
  v227 := Tryz.zeroValue202
  g0 := by kernel_rfl
  g3 := by kernel_rfl
  g4 := by kernel_rfl
  g6 := by kernel_rfl }
theorem Tryz.Space_Extra_163 : Space.Extra Tryz.prog Tryz.lays163_ren := {
  gNamed := by kernel_rfl }
open Go.RowKit in
theorem Tryz.strings_TrimSpace (s : ByteArray) (w : World) (hs : s.size ≤ 9223372036854775807) (hascii : ∀ (j : Nat) b, s.data.toList[j]? = some b → b.toNat < 128) (htab : Lib.TabIs Tryz.prog w "strings.asciiSpace" .u8 Lib.asciiSpaceTab) :
    Calls Tryz.prog 50 #[.string s] w fun e w' => e = .returned (.string ⟨(Lib.trimSpace s.data.toList).toArray⟩) ∧ w' = Lib.bytesWorld w 5 s := Any.strings_TrimSpace Tryz.lays163 Tryz.Space_Extra_163 s w hs hascii htab
def Tryz.lays120_ren : Go.Shelf.Ren := ⟨fun | 120 => 118 | n => n, fun | 5 => 5 | 4 => 4 | n => n, fun | n => n⟩
theorem Tryz.lays120 : Go.Proofs.Lays.n120 Tryz.prog Tryz.lays120_ren := {
  mixed := by kernel_rfl
  f120 := Tryz.func118.trans (congrArg some (by kernel_rfl))
  t4 := Tryz.underlying4
  a4 := Tryz.isAgg4
  z4 := Tryz.sizeOf4
  v4 := Tryz.zeroValue4
  t5 := Tryz.underlying5
  a5 := Tryz.isAgg5
  z5 := Tryz.sizeOf5
  v5 := Tryz.zeroValue5 }
theorem Tryz.utf8_RuneStart (b : Int) (w : World) (h0 : 0 ≤ b) (h1 : b < 256) :
    Calls Tryz.prog 118 #[.int .u8 b] w fun e w' => e = .returned (.bool (Lib.runeStart b)) ∧ w' = w := Any.utf8_RuneStart Tryz.lays120 b w h0 h1
def Tryz.lays128_ren : Go.Shelf.Ren := ⟨fun | 128 => 78 | n => n, fun | 51 => 117 | 3 => 3 | 4 => 4 | 46 => 122 | 5 => 5 | 9 => 9 | n => n, fun | n => n⟩
theorem Tryz.lays128 : Go.Proofs.Lays.n128 Tryz.prog Tryz.lays128_ren := {
  mixed := by kernel_rfl
  f128 := Tryz.func78.trans (congrArg some (by kernel_rfl))
  t3 := Tryz.underlying3
  a3 := Tryz.isAgg3
  z3 := Tryz.sizeOf3
  v3 := Tryz.zeroValue3
  t4 := Tryz.underlying4
  a4 := Tryz.isAgg4
  z4 := Tryz.sizeOf4
  v4 := Tryz.zeroValue4
  t5 := Tryz.underlying5
  a5 := Tryz.isAgg5
  z5 := Tryz.sizeOf5
  v5 := Tryz.zeroValue5
  t9 := Tryz.underlying9
  a9 := Tryz.isAgg9
  z9 := Tryz.sizeOf9
  v9 := Tryz.zeroValue9
  t46 := Tryz.underlying122
  a46 := Tryz.isAgg122
  z46 := Tryz.sizeOf122
  v46 := Tryz.zeroValue122
  t51 := Tryz.underlying117
  a51 := Tryz.isAgg117
  z51 := Tryz.sizeOf117
  v51 := Tryz.zeroValue117 }
theorem Tryz.bits_Len32 (x : Int) (w : World) (h0 : 0 ≤ x) (h1 : x ≤ 4294967295) :
    Calls Tryz.prog 78 #[.int .u32 x] w fun e w' => e = .returned (.int .i64 (Lib.bitLen x.toNat)) ∧ w' = w := Any.bits_Len32 Tryz.lays128 x w h0 h1
def Tryz.lays125_ren : Go.Shelf.Ren := ⟨fun | 125 => 57 | 128 => 78 | 129 => 79 | n => n, fun | 46 => 122 | 3 => 3 | 51 => 117 | 53 => 152 | 4 => 4 | 5 => 5 | 9 => 9 | n => n, fun | n => n⟩
theorem Tryz.lays125 : Go.Proofs.Lays.n125 Tryz.prog Tryz.lays125_ren := {
  mixed := by kernel_rfl
  f125 := Tryz.func57.trans (congrArg some (by kernel_rfl))
  f128 := Tryz.func78.trans (congrArg some (by kernel_rfl))
  f129 := Tryz.func79.trans (congrArg some (by kernel_rfl))
  t3 := Tryz.underlying3
  a3 := Tryz.isAgg3
  z3 := Tryz.sizeOf3
  v3 := Tryz.zeroValue3
  t4 := Tryz.underlying4
  a4 := Tryz.isAgg4
  z4 := Tryz.sizeOf4
  v4 := Tryz.zeroValue4
  t5 := Tryz.underlying5
  a5 := Tryz.isAgg5
  z5 := Tryz.sizeOf5
  v5 := Tryz.zeroValue5
  t9 := Tryz.underlying9
  a9 := Tryz.isAgg9
  z9 := Tryz.sizeOf9
  v9 := Tryz.zeroValue9
  t46 := Tryz.underlying122
  a46 := Tryz.isAgg122
  z46 := Tryz.sizeOf122
  v46 := Tryz.zeroValue122
  t51 := Tryz.underlying117
  a51 := Tryz.isAgg117
  z51 := Tryz.sizeOf117
  v51 := Tryz.zeroValue117
  t53 := Tryz.underlying152
  a53 := Tryz.isAgg152
  z53 := Tryz.sizeOf152
  v53 := Tryz.zeroValue152 }
theorem Tryz.bits_Len (x : Int) (w : World) (h0 : 0 ≤ x) (h1 : x ≤ 18446744073709551615) :
    Calls Tryz.prog 57 #[.int .u64 x] w fun e w' => e = .returned (.int .i64 (Lib.bitLen x.toNat)) ∧ w' = w := Any.bits_Len Tryz.lays125 x w h0 h1
def Tryz.lays215_ren : Go.Shelf.Ren := ⟨fun | 215 => 95 | n => n, fun | 3 => 3 | 4 => 4 | n => n, fun | n => n⟩
theorem Tryz.lays215 : Go.Proofs.Lays.n215 Tryz.prog Tryz.lays215_ren := {
  mixed := by kernel_rfl
  f215 := Tryz.func95.trans (congrArg some (by kernel_rfl))
  t3 := Tryz.underlying3
  a3 := Tryz.isAgg3
  z3 := Tryz.sizeOf3
  v3 := Tryz.zeroValue3
  t4 := Tryz.underlying4
  a4 := Tryz.isAgg4
  z4 := Tryz.sizeOf4
  v4 := Tryz.zeroValue4 }
open Go.RowKit in
theorem Tryz.cmp_isNaN_int (x : Int) (w : World) :
    Calls Tryz.prog 95 #[.int .i64 x] w fun e w' => e = .returned (.bool false) ∧ w' = w := Any.cmp_isNaN_int Tryz.lays215 x w
open Go.RowKit in
theorem Tryz.Builder_String_f (B b : Nat) (l : List UInt8) (w : World) (h : Lib.IsBuilderF 34 5 B b (Lib.byteCells l) w) (h0 : l ≠ []) :
    Calls Tryz.prog 10 #[.pointer (some ⟨b, 0, none⟩)] w fun e w' => e = .returned (.string ⟨l.toArray⟩) ∧ (Lib.IsBuilderF 34 5 B b (Lib.byteCells l) w' ∧ Below B w w') := Any.Builder_String_f Tryz.lays169 Tryz.Builder_Extra_169 B b l w h h0
open Go.RowKit in
theorem Tryz.Builder_String_empty_f (B b : Nat) (w : World) (h : Lib.IsBuilderF 34 5 B b [] w) (hBw : B ≤ w.heap.size) :
    Calls Tryz.prog 10 #[.pointer (some ⟨b, 0, none⟩)] w fun e w' => e = .returned (.string ⟨#[]⟩) ∧ (Lib.IsBuilderF 34 5 B b [] w' ∧ Below B w w') := Any.Builder_String_empty_f Tryz.lays169 Tryz.Builder_Extra_169 B b w h hBw
open Go.RowKit in
theorem Tryz.Builder_String_any_f (B b : Nat) (l : List UInt8) (w : World) (h : Lib.IsBuilderF 34 5 B b (Lib.byteCells l) w) (hBw : B ≤ w.heap.size) :
    Calls Tryz.prog 10 #[.pointer (some ⟨b, 0, none⟩)] w fun e w' => e = .returned (.string ⟨l.toArray⟩) ∧ (Lib.IsBuilderF 34 5 B b (Lib.byteCells l) w' ∧ Below B w w') := Any.Builder_String_any_f Tryz.lays169 Tryz.Builder_Extra_169 B b l w h hBw
open Go.RowKit in
theorem Tryz.Builder_String_k (B b : Nat) (l : List UInt8) (w : World) (h : Lib.IsBuilderF 34 5 B b (Lib.byteCells l) w) (h0 : l ≠ []) :
    Calls Tryz.prog 10 #[.pointer (some ⟨b, 0, none⟩)] w fun e w' => e = .returned (.string ⟨l.toArray⟩) ∧ (Lib.IsBuilderF 34 5 B b (Lib.byteCells l) w' ∧ Below B w w' ∧ Lib.OthersKept 5 (some b) w w') := Any.Builder_String_k Tryz.lays169 Tryz.Builder_Extra_169 B b l w h h0
open Go.RowKit in
theorem Tryz.Builder_String_empty_k (B b : Nat) (w : World) (h : Lib.IsBuilderF 34 5 B b [] w) (hBw : B ≤ w.heap.size) :
    Calls Tryz.prog 10 #[.pointer (some ⟨b, 0, none⟩)] w fun e w' => e = .returned (.string ⟨#[]⟩) ∧ (Lib.IsBuilderF 34 5 B b [] w' ∧ Below B w w' ∧ Lib.OthersKept 5 (some b) w w') := Any.Builder_String_empty_k Tryz.lays169 Tryz.Builder_Extra_169 B b w h hBw
open Go.RowKit in
theorem Tryz.Builder_String_any_k (B b : Nat) (l : List UInt8) (w : World) (h : Lib.IsBuilderF 34 5 B b (Lib.byteCells l) w) (hBw : B ≤ w.heap.size) :
    Calls Tryz.prog 10 #[.pointer (some ⟨b, 0, none⟩)] w fun e w' => e = .returned (.string ⟨l.toArray⟩) ∧ (Lib.IsBuilderF 34 5 B b (Lib.byteCells l) w' ∧ Below B w w' ∧ Lib.OthersKept 5 (some b) w w') := Any.Builder_String_any_k Tryz.lays169 Tryz.Builder_Extra_169 B b l w h hBw
def Tryz.lays278_ren : Go.Shelf.Ren := ⟨fun | 278 => 39 | n => n, fun | 37 => 32 | 21 => 21 | 51 => 117 | 4 => 4 | 46 => 122 | 5 => 5 | n => n, fun | n => n⟩
theorem Tryz.lays278 : Go.Proofs.Lays.n278 Tryz.prog Tryz.lays278_ren := {
  mixed := by kernel_rfl
  f278 := Tryz.func39.trans (congrArg some (by kernel_rfl))
  t4 := Tryz.underlying4
  a4 := Tryz.isAgg4
  z4 := Tryz.sizeOf4
  v4 := Tryz.zeroValue4
  t5 := Tryz.underlying5
  a5 := Tryz.isAgg5
  z5 := Tryz.sizeOf5
  v5 := Tryz.zeroValue5
  t21 := Tryz.underlying21
  a21 := Tryz.isAgg21
  z21 := Tryz.sizeOf21
  v21 := Tryz.zeroValue21
  t37 := Tryz.underlying32
  a37 := Tryz.isAgg32
  z37 := Tryz.sizeOf32
  v37 := Tryz.zeroValue32
  t46 := Tryz.underlying122
  a46 := Tryz.isAgg122
  z46 := Tryz.sizeOf122
  v46 := Tryz.zeroValue122
  t51 := Tryz.underlying117
  a51 := Tryz.isAgg117
  z51 := Tryz.sizeOf117
  v51 := Tryz.zeroValue117 }
open Go.RowKit in
theorem Tryz.utf8_appendRuneNonASCII_row (B : Nat) (v : Value) (n : Nat) (xs : List Value) (r : Int) (hr0 : -2147483648 ≤ r) (hr1 : r ≤ 2147483647) (hna : r < 0 ∨ 128 ≤ r) (w : World) (hown : w.ownsRowF B 5 1 v n xs) (hlen : n + 4 ≤ 140737488355328) (hBw : B ≤ w.heap.size) :
    Calls Tryz.prog 39 #[v, .int .i32 r] w fun e w' => ∃ v', e = .returned v' ∧ w'.ownsRowF B 5 1 v' (n + (Lib.runeCells r).length) (xs ++ Lib.runeCells r) ∧ ∃ o, (w.alloc o).grownBy w' v.ownBlock := Any.utf8_appendRuneNonASCII_row Tryz.lays278 (by kernel_rfl) B v n xs r hr0 hr1 hna w hown hlen hBw
def Tryz.lays242_ren : Go.Shelf.Ren := ⟨fun | 242 => 27 | 278 => 39 | n => n, fun | 37 => 32 | 21 => 21 | 51 => 117 | 4 => 4 | 5 => 5 | 46 => 122 | n => n, fun | n => n⟩
theorem Tryz.lays242 : Go.Proofs.Lays.n242 Tryz.prog Tryz.lays242_ren := {
  mixed := by kernel_rfl
  f242 := Tryz.func27.trans (congrArg some (by kernel_rfl))
  f278 := Tryz.func39.trans (congrArg some (by kernel_rfl))
  t4 := Tryz.underlying4
  a4 := Tryz.isAgg4
  z4 := Tryz.sizeOf4
  v4 := Tryz.zeroValue4
  t5 := Tryz.underlying5
  a5 := Tryz.isAgg5
  z5 := Tryz.sizeOf5
  v5 := Tryz.zeroValue5
  t21 := Tryz.underlying21
  a21 := Tryz.isAgg21
  z21 := Tryz.sizeOf21
  v21 := Tryz.zeroValue21
  t37 := Tryz.underlying32
  a37 := Tryz.isAgg32
  z37 := Tryz.sizeOf32
  v37 := Tryz.zeroValue32
  t46 := Tryz.underlying122
  a46 := Tryz.isAgg122
  z46 := Tryz.sizeOf122
  v46 := Tryz.zeroValue122
  t51 := Tryz.underlying117
  a51 := Tryz.isAgg117
  z51 := Tryz.sizeOf117
  v51 := Tryz.zeroValue117 }
open Go.RowKit in
theorem Tryz.utf8_AppendRune_row (B : Nat) (v : Value) (n : Nat) (xs : List Value) (r : Int) (hr0 : -2147483648 ≤ r) (hr1 : r ≤ 2147483647) (w : World) (hown : w.ownsRowF B 5 1 v n xs) (hlen : n + 4 ≤ 140737488355328) (hBw : B ≤ w.heap.size) :
    Calls Tryz.prog 27 #[v, .int .i32 r] w fun e w' => ∃ v', e = .returned v' ∧ w'.ownsRowF B 5 1 v' (n + (Lib.runeCells r).length) (xs ++ Lib.runeCells r) ∧ ∃ o, (w.alloc o).grownBy w' v.ownBlock := Any.utf8_AppendRune_row Tryz.lays242 (by kernel_rfl) B v n xs r hr0 hr1 w hown hlen hBw
open Go.RowKit in
theorem Tryz.utf8_appendRuneNonASCII_plain (B : Nat) (v : Value) (n : Nat) (xs : List Value) (r : Int) (hr0 : -2147483648 ≤ r) (hr1 : r ≤ 2147483647) (hna : r < 0 ∨ 128 ≤ r) (w : World) (hown : w.ownsRow B 5 1 v n xs) (hlen : n + 4 ≤ 140737488355328) (hBw : B ≤ w.heap.size) :
    Calls Tryz.prog 39 #[v, .int .i32 r] w fun e w' => ∃ v', e = .returned v' ∧ w'.ownsRow B 5 1 v' (n + (Lib.runeCells r).length) (xs ++ Lib.runeCells r) ∧ ∃ o, (w.alloc o).grownBy w' v.ownBlock := Any.utf8_appendRuneNonASCII_plain Tryz.lays278 (by kernel_rfl) B v n xs r hr0 hr1 hna w hown hlen hBw
open Go.RowKit in
theorem Tryz.utf8_AppendRune_plain (B : Nat) (v : Value) (n : Nat) (xs : List Value) (r : Int) (hr0 : -2147483648 ≤ r) (hr1 : r ≤ 2147483647) (w : World) (hown : w.ownsRow B 5 1 v n xs) (hlen : n + 4 ≤ 140737488355328) (hBw : B ≤ w.heap.size) :
    Calls Tryz.prog 27 #[v, .int .i32 r] w fun e w' => ∃ v', e = .returned v' ∧ w'.ownsRow B 5 1 v' (n + (Lib.runeCells r).length) (xs ++ Lib.runeCells r) ∧ ∃ o, (w.alloc o).grownBy w' v.ownBlock := Any.utf8_AppendRune_plain Tryz.lays242 (by kernel_rfl) B v n xs r hr0 hr1 w hown hlen hBw
open Go.RowKit in
theorem Tryz.Builder_grow_fresh_cap (B b n : Nat) (w : World) (hB : B ≤ b) (hbk : w.heap[b]? = some (.cells #[.pointer (some ⟨b, 0, none⟩), .slice none 0 0] 34 (0, 0))) (hBw : B ≤ w.heap.size) (hn : n ≤ 281474976710656) :
    Calls Tryz.prog 98 #[.pointer (some ⟨b, 0, none⟩), .int .i64 n] w fun e w' => e = .returned (.tuple #[]) ∧ (Lib.BuilderAt 34 5 B b (.pointer (some ⟨b, 0, none⟩)) [] w' ∧ Below B w w') ∧ ∃ p cap, w'.cell? ⟨b, 1, none⟩ = some (.slice p 0 cap) ∧ n ≤ cap := Any.Builder_grow_fresh_cap Tryz.lays241 Tryz.Builder_Extra_241 B b n w hB hbk hBw hn
open Go.RowKit in
theorem Tryz.Builder_Grow_fresh_cap (B b n : Nat) (w : World) (hB : B ≤ b) (hbk : w.heap[b]? = some (.cells #[.pointer none, .slice none 0 0] 34 (0, 0))) (hBw : B ≤ w.heap.size) (hn : n ≤ 281474976710656) :
    Calls Tryz.prog 84 #[.pointer (some ⟨b, 0, none⟩), .int .i64 n] w fun e w' => e = .returned (.tuple #[]) ∧ (Lib.BuilderAt 34 5 B b (.pointer (some ⟨b, 0, none⟩)) [] w' ∧ Below B w w') ∧ ∃ p cap, w'.cell? ⟨b, 1, none⟩ = some (.slice p 0 cap) ∧ n ≤ cap := Any.Builder_Grow_fresh_cap Tryz.lays165 Tryz.Builder_Extra_165 B b n w hB hbk hBw hn
def Tryz.lays129_ren : Go.Shelf.Ren := ⟨fun | 129 => 79 | n => n, fun | 53 => 152 | 3 => 3 | 4 => 4 | 46 => 122 | 5 => 5 | 9 => 9 | n => n, fun | n => n⟩
theorem Tryz.lays129 : Go.Proofs.Lays.n129 Tryz.prog Tryz.lays129_ren := {
  mixed := by kernel_rfl
  f129 := Tryz.func79.trans (congrArg some (by kernel_rfl))
  t3 := Tryz.underlying3
  a3 := Tryz.isAgg3
  z3 := Tryz.sizeOf3
  v3 := Tryz.zeroValue3
  t4 := Tryz.underlying4
  a4 := Tryz.isAgg4
  z4 := Tryz.sizeOf4
  v4 := Tryz.zeroValue4
  t5 := Tryz.underlying5
  a5 := Tryz.isAgg5
  z5 := Tryz.sizeOf5
  v5 := Tryz.zeroValue5
  t9 := Tryz.underlying9
  a9 := Tryz.isAgg9
  z9 := Tryz.sizeOf9
  v9 := Tryz.zeroValue9
  t46 := Tryz.underlying122
  a46 := Tryz.isAgg122
  z46 := Tryz.sizeOf122
  v46 := Tryz.zeroValue122
  t53 := Tryz.underlying152
  a53 := Tryz.isAgg152
  z53 := Tryz.sizeOf152
  v53 := Tryz.zeroValue152 }
theorem Tryz.bits_Len64 (x : Int) (w : World) (h0 : 0 ≤ x) (h1 : x ≤ 18446744073709551615) :
    Calls Tryz.prog 79 #[.int .u64 x] w fun e w' => e = .returned (.int .i64 (Lib.bitLen x.toNat)) ∧ w' = w := Any.bits_Len64 Tryz.lays129 x w h0 h1
def Tryz.lays189_ren : Go.Shelf.Ren := ⟨fun | 189 => 46 | 125 => 57 | 257 => 56 | 128 => 78 | 129 => 79 | 294 => 69 | 295 => 70 | 296 => 71 | 297 => 72 | 298 => 73 | 299 => 74 | 216 => 75 | 300 => 76 | 301 => 77 | 328 => 90 | 329 => 91 | 330 => 92 | 331 => 93 | 332 => 94 | 215 => 95 | 343 => 106 | n => n, fun | 28 => 65 | 3 => 3 | 46 => 122 | 0 => 0 | 51 => 117 | 53 => 152 | 4 => 4 | 183 => 143 | 182 => 142 | 131 => 148 | 5 => 5 | 9 => 9 | 218 => 167 | 222 => 171 | 228 => 190 | 229 => 191 | n => n, fun | n => n⟩
theorem Tryz.lays189 : Go.Proofs.Lays.n189 Tryz.prog Tryz.lays189_ren := {
  mixed := by kernel_rfl
  f125 := Tryz.func57.trans (congrArg some (by kernel_rfl))
  f128 := Tryz.func78.trans (congrArg some (by kernel_rfl))
  f129 := Tryz.func79.trans (congrArg some (by kernel_rfl))
  f189 := Tryz.func46.trans (congrArg some (by kernel_rfl))
  f215 := Tryz.func95.trans (congrArg some (by kernel_rfl))
  f216 := Tryz.func75.trans (congrArg some (by kernel_rfl))
  f257 := Tryz.func56.trans (congrArg some (by kernel_rfl))
  f294 := Tryz.func69.trans (congrArg some (by kernel_rfl))
  f295 := Tryz.func70.trans (congrArg some (by kernel_rfl))
  f296 := Tryz.func71.trans (congrArg some (by kernel_rfl))
  f297 := Tryz.func72.trans (congrArg some (by kernel_rfl))
  f298 := Tryz.func73.trans (congrArg some (by kernel_rfl))
  f299 := Tryz.func74.trans (congrArg some (by kernel_rfl))
  f300 := Tryz.func76.trans (congrArg some (by kernel_rfl))
  f301 := Tryz.func77.trans (congrArg some (by kernel_rfl))
  f328 := Tryz.func90.trans (congrArg some (by kernel_rfl))
  f329 := Tryz.func91.trans (congrArg some (by kernel_rfl))
  f330 := Tryz.func92.trans (congrArg some (by kernel_rfl))
  f331 := Tryz.func93.trans (congrArg some (by kernel_rfl))
  f332 := Tryz.func94.trans (congrArg some (by kernel_rfl))
  f343 := Tryz.func106.trans (congrArg some (by kernel_rfl))
  t0 := Tryz.underlying0
  a0 := Tryz.isAgg0
  z0 := Tryz.sizeOf0
  v0 := Tryz.zeroValue0
  t3 := Tryz.underlying3
  a3 := Tryz.isAgg3
  z3 := Tryz.sizeOf3
  v3 := Tryz.zeroValue3
  t4 := Tryz.underlying4
  a4 := Tryz.isAgg4
  z4 := Tryz.sizeOf4
  v4 := Tryz.zeroValue4
  t5 := Tryz.underlying5
  a5 := Tryz.isAgg5
  z5 := Tryz.sizeOf5
  v5 := Tryz.zeroValue5
  t9 := Tryz.underlying9
  a9 := Tryz.isAgg9
  z9 := Tryz.sizeOf9
  v9 := Tryz.zeroValue9
  t28 := Tryz.underlying65
  a28 := Tryz.isAgg65
  z28 := Tryz.sizeOf65
  v28 := Tryz.zeroValue65
  t46 := Tryz.underlying122
  a46 := Tryz.isAgg122
  z46 := Tryz.sizeOf122
  v46 := Tryz.zeroValue122
  t51 := Tryz.underlying117
  a51 := Tryz.isAgg117
  z51 := Tryz.sizeOf117
  v51 := Tryz.zeroValue117
  t53 := Tryz.underlying152
  a53 := Tryz.isAgg152
  z53 := Tryz.sizeOf152
  v53 := Tryz.zeroValue152
  t131 := Tryz.underlying148
  a131 := Tryz.isAgg148
  z131 := Tryz.sizeOf148
  v131 := Tryz.zeroValue148
  t182 := Tryz.underlying142
  a182 := Tryz.isAgg142
  z182 := Tryz.sizeOf142
  v182 := Tryz.zeroValue142
  t183 := Tryz.underlying143
  a183 := Tryz.isAgg143
  z183 := Tryz.sizeOf143
  v183 := Tryz.zeroValue143
  t218 := Tryz.underlying167
  a218 := Tryz.isAgg167
  z218 := Tryz.sizeOf167
  v218 := Tryz.zeroValue167
  t222 := Tryz.underlying171
  a222 := Tryz.isAgg171
  z222 := Tryz.sizeOf171
  v222 := Tryz.zeroValue171
  t228 := Tryz.underlying190
  a228 := Tryz.isAgg190
  z228 := Tryz.sizeOf190
  v228 := Tryz.zeroValue190
  t229 := Tryz.underlying191
  a229 := Tryz.isAgg191
  z229 := Tryz.sizeOf191
  v229 := Tryz.zeroValue191 }
open Go.Sort Go.RowKit in
theorem Tryz.slices_Sort_int (blk off cap : Nat) (zs : List Int) (w : World) (hH : Holds (Value.int .i64) w blk off zs.toArray) (hblk : blk < w.heap.size) (hsz : zs.length < 4611686018427387904) :
    Calls Tryz.prog 46 #[.slice (some ⟨blk, off, none⟩) zs.length cap] w fun e w' =>
      e = .returned (.tuple #[]) ∧ ∃ n os, w' = grow (putRow (Value.int .i64) (Sort.ahead w n) blk off (zs.mergeSort fun x y => decide (x ≤ y)).toArray) os := Any.slices_Sort_int Tryz.lays189 blk off cap zs w hH hblk hsz
def Tryz.lays191_ren : Go.Shelf.Ren := ⟨fun | 191 => 32 | 189 => 46 | 125 => 57 | 257 => 56 | 128 => 78 | 129 => 79 | 294 => 69 | 295 => 70 | 296 => 71 | 297 => 72 | 298 => 73 | 299 => 74 | 216 => 75 | 300 => 76 | 301 => 77 | 328 => 90 | 329 => 91 | 330 => 92 | 331 => 93 | 332 => 94 | 215 => 95 | 343 => 106 | n => n, fun | 28 => 65 | 0 => 0 | 3 => 3 | 46 => 122 | 51 => 117 | 53 => 152 | 4 => 4 | 183 => 143 | 182 => 142 | 131 => 148 | 5 => 5 | 9 => 9 | 218 => 167 | 222 => 171 | 228 => 190 | 229 => 191 | n => n, fun | n => n⟩
theorem Tryz.lays191 : Go.Proofs.Lays.n191 Tryz.prog Tryz.lays191_ren := {
  mixed := by kernel_rfl
  f125 := Tryz.func57.trans (congrArg some (by kernel_rfl))
  f128 := Tryz.func78.trans (congrArg some (by kernel_rfl))
  f129 := Tryz.func79.trans (congrArg some (by kernel_rfl))
  f189 := Tryz.func46.trans (congrArg some (by kernel_rfl))
  f191 := Tryz.func32.trans (congrArg some (by kernel_rfl))
  f215 := Tryz.func95.trans (congrArg some (by kernel_rfl))
  f216 := Tryz.func75.trans (congrArg some (by kernel_rfl))
  f257 := Tryz.func56.trans (congrArg some (by kernel_rfl))
  f294 := Tryz.func69.trans (congrArg some (by kernel_rfl))
  f295 := Tryz.func70.trans (congrArg some (by kernel_rfl))
  f296 := Tryz.func71.trans (congrArg some (by kernel_rfl))
  f297 := Tryz.func72.trans (congrArg some (by kernel_rfl))
  f298 := Tryz.func73.trans (congrArg some (by kernel_rfl))
  f299 := Tryz.func74.trans (congrArg some (by kernel_rfl))
  f300 := Tryz.func76.trans (congrArg some (by kernel_rfl))
  f301 := Tryz.func77.trans (congrArg some (by kernel_rfl))
  f328 := Tryz.func90.trans (congrArg some (by kernel_rfl))
  f329 := Tryz.func91.trans (congrArg some (by kernel_rfl))
  f330 := Tryz.func92.trans (congrArg some (by kernel_rfl))
  f331 := Tryz.func93.trans (congrArg some (by kernel_rfl))
  f332 := Tryz.func94.trans (congrArg some (by kernel_rfl))
  f343 := Tryz.func106.trans (congrArg some (by kernel_rfl))
  t0 := Tryz.underlying0
  a0 := Tryz.isAgg0
  z0 := Tryz.sizeOf0
  v0 := Tryz.zeroValue0
  t3 := Tryz.underlying3
  a3 := Tryz.isAgg3
  z3 := Tryz.sizeOf3
  v3 := Tryz.zeroValue3
  t4 := Tryz.underlying4
  a4 := Tryz.isAgg4
  z4 := Tryz.sizeOf4
  v4 := Tryz.zeroValue4
  t5 := Tryz.underlying5
  a5 := Tryz.isAgg5
  z5 := Tryz.sizeOf5
  v5 := Tryz.zeroValue5
  t9 := Tryz.underlying9
  a9 := Tryz.isAgg9
  z9 := Tryz.sizeOf9
  v9 := Tryz.zeroValue9
  t28 := Tryz.underlying65
  a28 := Tryz.isAgg65
  z28 := Tryz.sizeOf65
  v28 := Tryz.zeroValue65
  t46 := Tryz.underlying122
  a46 := Tryz.isAgg122
  z46 := Tryz.sizeOf122
  v46 := Tryz.zeroValue122
  t51 := Tryz.underlying117
  a51 := Tryz.isAgg117
  z51 := Tryz.sizeOf117
  v51 := Tryz.zeroValue117
  t53 := Tryz.underlying152
  a53 := Tryz.isAgg152
  z53 := Tryz.sizeOf152
  v53 := Tryz.zeroValue152
  t131 := Tryz.underlying148
  a131 := Tryz.isAgg148
  z131 := Tryz.sizeOf148
  v131 := Tryz.zeroValue148
  t182 := Tryz.underlying142
  a182 := Tryz.isAgg142
  z182 := Tryz.sizeOf142
  v182 := Tryz.zeroValue142
  t183 := Tryz.underlying143
  a183 := Tryz.isAgg143
  z183 := Tryz.sizeOf143
  v183 := Tryz.zeroValue143
  t218 := Tryz.underlying167
  a218 := Tryz.isAgg167
  z218 := Tryz.sizeOf167
  v218 := Tryz.zeroValue167
  t222 := Tryz.underlying171
  a222 := Tryz.isAgg171
  z222 := Tryz.sizeOf171
  v222 := Tryz.zeroValue171
  t228 := Tryz.underlying190
  a228 := Tryz.isAgg190
  z228 := Tryz.sizeOf190
  v228 := Tryz.zeroValue190
  t229 := Tryz.underlying191
  a229 := Tryz.isAgg191
  z229 := Tryz.sizeOf191
  v229 := Tryz.zeroValue191 }
open Go.Sort Go.RowKit in
theorem Tryz.sort_Ints (blk off cap : Nat) (zs : List Int) (w : World) (hH : Holds (Value.int .i64) w blk off zs.toArray) (hblk : blk < w.heap.size) (hsz : zs.length < 4611686018427387904) :
    Calls Tryz.prog 32 #[.slice (some ⟨blk, off, none⟩) zs.length cap] w fun e w' =>
      e = .returned (.tuple #[]) ∧ ∃ n os, w' = grow (putRow (Value.int .i64) (Sort.ahead w n) blk off (zs.mergeSort fun x y => decide (x ≤ y)).toArray) os := Any.sort_Ints Tryz.lays191 blk off cap zs w hH hblk hsz
def Tryz.lays190_ren : Go.Shelf.Ren := ⟨fun | 190 => 83 | 125 => 57 | 258 => 97 | 128 => 78 | 129 => 79 | 302 => 108 | 303 => 109 | 304 => 110 | 305 => 111 | 306 => 112 | 307 => 113 | 308 => 114 | 309 => 115 | 310 => 116 | 333 => 119 | 329 => 91 | 330 => 92 | 334 => 120 | 335 => 121 | 336 => 122 | 344 => 123 | n => n, fun | 31 => 29 | 9 => 9 | 3 => 3 | 46 => 122 | 0 => 0 | 51 => 117 | 53 => 152 | 4 => 4 | 183 => 143 | 182 => 142 | 131 => 148 | 5 => 5 | 218 => 167 | 222 => 171 | 228 => 190 | 229 => 191 | n => n, fun | n => n⟩
theorem Tryz.lays190 : Go.Proofs.Lays.n190 Tryz.prog Tryz.lays190_ren := {
  mixed := by kernel_rfl
  f125 := Tryz.func57.trans (congrArg some (by kernel_rfl))
  f128 := Tryz.func78.trans (congrArg some (by kernel_rfl))
  f129 := Tryz.func79.trans (congrArg some (by kernel_rfl))
  f190 := Tryz.func83.trans (congrArg some (by kernel_rfl))
  f258 := Tryz.func97.trans (congrArg some (by kernel_rfl))
  f302 := Tryz.func108.trans (congrArg some (by kernel_rfl))
  f303 := Tryz.func109.trans (congrArg some (by kernel_rfl))
  f304 := Tryz.func110.trans (congrArg some (by kernel_rfl))
  f305 := Tryz.func111.trans (congrArg some (by kernel_rfl))
  f306 := Tryz.func112.trans (congrArg some (by kernel_rfl))
  f307 := Tryz.func113.trans (congrArg some (by kernel_rfl))
  f308 := Tryz.func114.trans (congrArg some (by kernel_rfl))
  f309 := Tryz.func115.trans (congrArg some (by kernel_rfl))
  f310 := Tryz.func116.trans (congrArg some (by kernel_rfl))
  f329 := Tryz.func91.trans (congrArg some (by kernel_rfl))
  f330 := Tryz.func92.trans (congrArg some (by kernel_rfl))
  f333 := Tryz.func119.trans (congrArg some (by kernel_rfl))
  f334 := Tryz.func120.trans (congrArg some (by kernel_rfl))
  f335 := Tryz.func121.trans (congrArg some (by kernel_rfl))
  f336 := Tryz.func122.trans (congrArg some (by kernel_rfl))
  f344 := Tryz.func123.trans (congrArg some (by kernel_rfl))
  t0 := Tryz.underlying0
  a0 := Tryz.isAgg0
  z0 := Tryz.sizeOf0
  v0 := Tryz.zeroValue0
  t3 := Tryz.underlying3
  a3 := Tryz.isAgg3
  z3 := Tryz.sizeOf3
  v3 := Tryz.zeroValue3
  t4 := Tryz.underlying4
  a4 := Tryz.isAgg4
  z4 := Tryz.sizeOf4
  v4 := Tryz.zeroValue4
  t5 := Tryz.underlying5
  a5 := Tryz.isAgg5
  z5 := Tryz.sizeOf5
  v5 := Tryz.zeroValue5
  t9 := Tryz.underlying9
  a9 := Tryz.isAgg9
  z9 := Tryz.sizeOf9
  v9 := Tryz.zeroValue9
  t31 := Tryz.underlying29
  a31 := Tryz.isAgg29
  z31 := Tryz.sizeOf29
  v31 := Tryz.zeroValue29
  t46 := Tryz.underlying122
  a46 := Tryz.isAgg122
  z46 := Tryz.sizeOf122
  v46 := Tryz.zeroValue122
  t51 := Tryz.underlying117
  a51 := Tryz.isAgg117
  z51 := Tryz.sizeOf117
  v51 := Tryz.zeroValue117
  t53 := Tryz.underlying152
  a53 := Tryz.isAgg152
  z53 := Tryz.sizeOf152
  v53 := Tryz.zeroValue152
  t131 := Tryz.underlying148
  a131 := Tryz.isAgg148
  z131 := Tryz.sizeOf148
  v131 := Tryz.zeroValue148
  t182 := Tryz.underlying142
  a182 := Tryz.isAgg142
  z182 := Tryz.sizeOf142
  v182 := Tryz.zeroValue142
  t183 := Tryz.underlying143
  a183 := Tryz.isAgg143
  z183 := Tryz.sizeOf143
  v183 := Tryz.zeroValue143
  t218 := Tryz.underlying167
  a218 := Tryz.isAgg167
  z218 := Tryz.sizeOf167
  v218 := Tryz.zeroValue167
  t222 := Tryz.underlying171
  a222 := Tryz.isAgg171
  z222 := Tryz.sizeOf171
  v222 := Tryz.zeroValue171
  t228 := Tryz.underlying190
  a228 := Tryz.isAgg190
  z228 := Tryz.sizeOf190
  v228 := Tryz.zeroValue190
  t229 := Tryz.underlying191
  a229 := Tryz.isAgg191
  z229 := Tryz.sizeOf191
  v229 := Tryz.zeroValue191 }
open Go.Sort Go.RowKit in
theorem Tryz.slices_Sort_string (blk off cap : Nat) (ss : List (List UInt8)) (w : World) (hH : Holds encStr w blk off ss.toArray) (hblk : blk < w.heap.size) (hsz : ss.length < 4611686018427387904) :
    Calls Tryz.prog 83 #[.slice (some ⟨blk, off, none⟩) ss.length cap] w fun e w' =>
      e = .returned (.tuple #[]) ∧ ∃ n os, w' = grow (putRow encStr (Sort.ahead w n) blk off (ss.mergeSort fun x y => decide (x ≤ y)).toArray) os := Any.slices_Sort_string Tryz.lays190 blk off cap ss w hH hblk hsz
def Tryz.lays192_ren : Go.Shelf.Ren := ⟨fun | 192 => 59 | 190 => 83 | 125 => 57 | 258 => 97 | 128 => 78 | 129 => 79 | 302 => 108 | 303 => 109 | 304 => 110 | 305 => 111 | 306 => 112 | 307 => 113 | 308 => 114 | 309 => 115 | 310 => 116 | 333 => 119 | 329 => 91 | 330 => 92 | 334 => 120 | 335 => 121 | 336 => 122 | 344 => 123 | n => n, fun | 31 => 29 | 0 => 0 | 9 => 9 | 3 => 3 | 46 => 122 | 51 => 117 | 53 => 152 | 4 => 4 | 183 => 143 | 182 => 142 | 131 => 148 | 5 => 5 | 218 => 167 | 222 => 171 | 228 => 190 | 229 => 191 | n => n, fun | n => n⟩
theorem Tryz.lays192 : Go.Proofs.Lays.n192 Tryz.prog Tryz.lays192_ren := {
  mixed := by kernel_rfl
  f125 := Tryz.func57.trans (congrArg some (by kernel_rfl))
  f128 := Tryz.func78.trans (congrArg some (by kernel_rfl))
  f129 := Tryz.func79.trans (congrArg some (by kernel_rfl))
  f190 := Tryz.func83.trans (congrArg some (by kernel_rfl))
  f192 := Tryz.func59.trans (congrArg some (by kernel_rfl))
  f258 := Tryz.func97.trans (congrArg some (by kernel_rfl))
  f302 := Tryz.func108.trans (congrArg some (by kernel_rfl))
  f303 := Tryz.func109.trans (congrArg some (by kernel_rfl))
  f304 := Tryz.func110.trans (congrArg some (by kernel_rfl))
  f305 := Tryz.func111.trans (congrArg some (by kernel_rfl))
  f306 := Tryz.func112.trans (congrArg some (by kernel_rfl))
  f307 := Tryz.func113.trans (congrArg some (by kernel_rfl))
  f308 := Tryz.func114.trans (congrArg some (by kernel_rfl))
  f309 := Tryz.func115.trans (congrArg some (by kernel_rfl))
  f310 := Tryz.func116.trans (congrArg some (by kernel_rfl))
  f329 := Tryz.func91.trans (congrArg some (by kernel_rfl))
  f330 := Tryz.func92.trans (congrArg some (by kernel_rfl))
  f333 := Tryz.func119.trans (congrArg some (by kernel_rfl))
  f334 := Tryz.func120.trans (congrArg some (by kernel_rfl))
  f335 := Tryz.func121.trans (congrArg some (by kernel_rfl))
  f336 := Tryz.func122.trans (congrArg some (by kernel_rfl))
  f344 := Tryz.func123.trans (congrArg some (by kernel_rfl))
  t0 := Tryz.underlying0
  a0 := Tryz.isAgg0
  z0 := Tryz.sizeOf0
  v0 := Tryz.zeroValue0
  t3 := Tryz.underlying3
  a3 := Tryz.isAgg3
  z3 := Tryz.sizeOf3
  v3 := Tryz.zeroValue3
  t4 := Tryz.underlying4
  a4 := Tryz.isAgg4
  z4 := Tryz.sizeOf4
  v4 := Tryz.zeroValue4
  t5 := Tryz.underlying5
  a5 := Tryz.isAgg5
  z5 := Tryz.sizeOf5
  v5 := Tryz.zeroValue5
  t9 := Tryz.underlying9
  a9 := Tryz.isAgg9
  z9 := Tryz.sizeOf9
  v9 := Tryz.zeroValue9
  t31 := Tryz.underlying29
  a31 := Tryz.isAgg29
  z31 := Tryz.sizeOf29
  v31 := Tryz.zeroValue29
  t46 := Tryz.underlying122
  a46 := Tryz.isAgg122
  z46 := Tryz.sizeOf122
  v46 := Tryz.zeroValue122
  t51 := Tryz.underlying117
  a51 := Tryz.isAgg117
  z51 := Tryz.sizeOf117
  v51 := Tryz.zeroValue117
  t53 := Tryz.underlying152
  a53 := Tryz.isAgg152
  z53 := Tryz.sizeOf152
  v53 := Tryz.zeroValue152
  t131 := Tryz.underlying148
  a131 := Tryz.isAgg148
  z131 := Tryz.sizeOf148
  v131 := Tryz.zeroValue148
  t182 := Tryz.underlying142
  a182 := Tryz.isAgg142
  z182 := Tryz.sizeOf142
  v182 := Tryz.zeroValue142
  t183 := Tryz.underlying143
  a183 := Tryz.isAgg143
  z183 := Tryz.sizeOf143
  v183 := Tryz.zeroValue143
  t218 := Tryz.underlying167
  a218 := Tryz.isAgg167
  z218 := Tryz.sizeOf167
  v218 := Tryz.zeroValue167
  t222 := Tryz.underlying171
  a222 := Tryz.isAgg171
  z222 := Tryz.sizeOf171
  v222 := Tryz.zeroValue171
  t228 := Tryz.underlying190
  a228 := Tryz.isAgg190
  z228 := Tryz.sizeOf190
  v228 := Tryz.zeroValue190
  t229 := Tryz.underlying191
  a229 := Tryz.isAgg191
  z229 := Tryz.sizeOf191
  v229 := Tryz.zeroValue191 }
open Go.Sort Go.RowKit in
theorem Tryz.sort_Strings (blk off cap : Nat) (ss : List (List UInt8)) (w : World) (hH : Holds encStr w blk off ss.toArray) (hblk : blk < w.heap.size) (hsz : ss.length < 4611686018427387904) :
    Calls Tryz.prog 59 #[.slice (some ⟨blk, off, none⟩) ss.length cap] w fun e w' =>
      e = .returned (.tuple #[]) ∧ ∃ n os, w' = grow (putRow encStr (Sort.ahead w n) blk off (ss.mergeSort fun x y => decide (x ≤ y)).toArray) os := Any.sort_Strings Tryz.lays192 blk off cap ss w hH hblk hsz
def Tryz.lays199_ren : Go.Shelf.Ren := ⟨fun | 199 => 63 | 261 => 86 | 311 => 100 | 312 => 101 | n => n, fun | 21 => 21 | 4 => 4 | 51 => 117 | 141 => 160 | 0 => 0 | 196 => 180 | 193 => 177 | 3 => 3 | 198 => 183 | 49 => 181 | 194 => 178 | 201 => 186 | 226 => 201 | 46 => 122 | 227 => 202 | n => n, fun | 6 => 1 | n => n⟩
theorem Tryz.lays199 : Go.Proofs.Lays.n199 Tryz.prog Tryz.lays199_ren := {
  mixed := by kernel_rfl
  f199 := Tryz.func63.trans (congrArg some (by kernel_rfl))
  f261 := Tryz.func86.trans (congrArg some (by kernel_rfl))
  f311 := Tryz.func100.trans (congrArg some (by kernel_rfl))
  f312 := Tryz.func101.trans (congrArg some (by kernel_rfl))
  t0 := Tryz.underlying0
  a0 := Tryz.isAgg0
  z0 := Tryz.sizeOf0
  v0 := Tryz.zeroValue0
  t3 := Tryz.underlying3
  a3 := Tryz.isAgg3
  z3 := Tryz.sizeOf3
  v3 := Tryz.zeroValue3
  t4 := Tryz.underlying4
  a4 := Tryz.isAgg4
  z4 := Tryz.sizeOf4
  v4 := Tryz.zeroValue4
  t21 := Tryz.underlying21
  a21 := Tryz.isAgg21
  z21 := Tryz.sizeOf21
  v21 := Tryz.zeroValue21
  t46 := Tryz.underlying122
  a46 := Tryz.isAgg122
  z46 := Tryz.sizeOf122
  v46 := Tryz.zeroValue122
  t49 := Tryz.underlying181
  a49 := Tryz.isAgg181
  z49 := Tryz.sizeOf181
  v49 := Tryz.zeroValue181
  t51 := Tryz.underlying117
  a51 := Tryz.isAgg117
  z51 := Tryz.sizeOf117
  v51 := Tryz.zeroValue117
  t141 := Tryz.underlying160
  a141 := Tryz.isAgg160
  z141 := Tryz.sizeOf160
  v141 := Tryz.zeroValue160
  t193 := Tryz.underlying177
  a193 := Tryz.isAgg177
  z193 := Tryz.sizeOf177
  v193 := Tryz.zeroValue177
  t194 := Tryz.underlying178
  a194 := Tryz.isAgg178
  z194 := Tryz.sizeOf178
  v194 := Tryz.zeroValue178
  t196 := Tryz.underlying180
  a196 := Tryz.isAgg180
  z196 := Tryz.sizeOf180
  v196 := Tryz.zeroValue180
  t198 := Tryz.underlying183
  a198 := Tryz.isAgg183
  z198 := Tryz.sizeOf183
  v198 := Tryz.zeroValue183
  t201 := Tryz.underlying186
  a201 := Tryz.isAgg186
  z201 := Tryz.sizeOf186
  v201 := Tryz.zeroValue186
  t226 := Tryz.underlying201
  a226 := Tryz.isAgg201
  z226 := Tryz.sizeOf201
  v226 := Tryz.zeroValue201
  t227 := Tryz.underlying202
  a227 := Tryz.isAgg202
  z227 := Tryz.sizeOf202
  v227 := Tryz.zeroValue202
  g6 := by kernel_rfl }
open Go.RowKit Go.Lib in
theorem Tryz.unicode_IsSpace (r : Int) (w : World) (h0 : 0 ≤ r) (h : r ≤ 255) :
    Calls Tryz.prog 63 #[.int .i32 r] w fun e w' => e = .returned (.bool (Lib.isSpaceL r)) ∧ w' = w := Any.unicode_IsSpace Tryz.lays199 r w h0 h
def Tryz.lays197_ren : Go.Shelf.Ren := ⟨fun | 197 => 88 | 260 => 103 | n => n, fun | 9 => 9 | 21 => 21 | 3 => 3 | 4 => 4 | 5 => 5 | 105 => 162 | 119 => 134 | 0 => 0 | 46 => 122 | 139 => 206 | 138 => 205 | n => n, fun | 3 => 2 | 4 => 3 | n => n⟩
theorem Tryz.lays197 : Go.Proofs.Lays.n197 Tryz.prog Tryz.lays197_ren := {
  mixed := by kernel_rfl
  f197 := Tryz.func88.trans (congrArg some (by kernel_rfl))
  f260 := Tryz.func103.trans (congrArg some (by kernel_rfl))
  t0 := Tryz.underlying0
  a0 := Tryz.isAgg0
  z0 := Tryz.sizeOf0
  v0 := Tryz.zeroValue0
  t3 := Tryz.underlying3
  a3 := Tryz.isAgg3
  z3 := Tryz.sizeOf3
  v3 := Tryz.zeroValue3
  t4 := Tryz.underlying4
  a4 := Tryz.isAgg4
  z4 := Tryz.sizeOf4
  v4 := Tryz.zeroValue4
  t5 := Tryz.underlying5
  a5 := Tryz.isAgg5
  z5 := Tryz.sizeOf5
  v5 := Tryz.zeroValue5
  t9 := Tryz.underlying9
  a9 := Tryz.isAgg9
  z9 := Tryz.sizeOf9
  v9 := Tryz.zeroValue9
  t21 := Tryz.underlying21
  a21 := Tryz.isAgg21
  z21 := Tryz.sizeOf21
  v21 := Tryz.zeroValue21
  t46 := Tryz.underlying122
  a46 := Tryz.isAgg122
  z46 := Tryz.sizeOf122
  v46 := Tryz.zeroValue122
  t105 := Tryz.underlying162
  a105 := Tryz.isAgg162
  z105 := Tryz.sizeOf162
  v105 := Tryz.zeroValue162
  t119 := Tryz.underlying134
  a119 := Tryz.isAgg134
  z119 := Tryz.sizeOf134
  t138 := Tryz.underlying205
  a138 := Tryz.isAgg205
  z138 := Tryz.sizeOf205
  v138 := Tryz.zeroValue205
  t139 := Tryz.underlying206
  a139 := Tryz.isAgg206
  z139 := Tryz.sizeOf206
  v139 := Tryz.zeroValue206
  g3 := by kernel_rfl
  g4 := by kernel_rfl }
open Go.RowKit Go.Lib in
theorem Tryz.utf8_DecodeRuneInString_ascii (s : ByteArray) (x : UInt8) (w : World) (h0 : s.data.toList[0]? = some x) (hx : x.toNat < 128) :
    Calls Tryz.prog 88 #[.string s] w fun e w' => e = .returned (.tuple #[.int .i32 x.toNat, .int .i64 1]) ∧ w' = w := Any.utf8_DecodeRuneInString_ascii Tryz.lays197 s x w h0 hx
def Tryz.lays260_ren : Go.Shelf.Ren := ⟨fun | 260 => 103 | n => n, fun | 9 => 9 | 21 => 21 | 3 => 3 | 4 => 4 | 5 => 5 | 119 => 134 | 0 => 0 | 46 => 122 | 139 => 206 | 138 => 205 | n => n, fun | 3 => 2 | 4 => 3 | n => n⟩
theorem Tryz.lays260 : Go.Proofs.Lays.n260 Tryz.prog Tryz.lays260_ren := {
  mixed := by kernel_rfl
  f260 := Tryz.func103.trans (congrArg some (by kernel_rfl))
  t0 := Tryz.underlying0
  a0 := Tryz.isAgg0
  z0 := Tryz.sizeOf0
  v0 := Tryz.zeroValue0
  t3 := Tryz.underlying3
  a3 := Tryz.isAgg3
  z3 := Tryz.sizeOf3
  v3 := Tryz.zeroValue3
  t4 := Tryz.underlying4
  a4 := Tryz.isAgg4
  z4 := Tryz.sizeOf4
  v4 := Tryz.zeroValue4
  t5 := Tryz.underlying5
  a5 := Tryz.isAgg5
  z5 := Tryz.sizeOf5
  v5 := Tryz.zeroValue5
  t9 := Tryz.underlying9
  a9 := Tryz.isAgg9
  z9 := Tryz.sizeOf9
  v9 := Tryz.zeroValue9
  t21 := Tryz.underlying21
  a21 := Tryz.isAgg21
  z21 := Tryz.sizeOf21
  v21 := Tryz.zeroValue21
  t46 := Tryz.underlying122
  a46 := Tryz.isAgg122
  z46 := Tryz.sizeOf122
  v46 := Tryz.zeroValue122
  t119 := Tryz.underlying134
  a119 := Tryz.isAgg134
  z119 := Tryz.sizeOf134
  t138 := Tryz.underlying205
  a138 := Tryz.isAgg205
  z138 := Tryz.sizeOf205
  v138 := Tryz.zeroValue205
  t139 := Tryz.underlying206
  a139 := Tryz.isAgg206
  z139 := Tryz.sizeOf206
  v139 := Tryz.zeroValue206
  g3 := by kernel_rfl
  g4 := by kernel_rfl }
open Go.RowKit Go.Lib in
theorem Tryz.utf8_decodeRuneInStringSlow (s : ByteArray) (w : World) (hT : Lib.Utf8Tabs 2 3 w) :
    Calls Tryz.prog 103 #[.string s] w fun e w' => e = .returned (.tuple #[.int .i32 (Lib.decodeGo s).1, .int .i64 (Lib.decodeGo s).2]) ∧ Below w.heap.size w w' := Any.utf8_decodeRuneInStringSlow Tryz.lays260 s w hT
open Go.RowKit Go.Lib in
theorem Tryz.utf8_DecodeRuneInString (s : ByteArray) (w : World) (hT : Lib.Utf8Tabs 2 3 w) :
    Calls Tryz.prog 88 #[.string s] w fun e w' => e = .returned (.tuple #[.int .i32 (Lib.decodeGo s).1, .int .i64 (Lib.decodeGo s).2]) ∧ Below w.heap.size w w' := Any.utf8_DecodeRuneInString Tryz.lays197 s w hT
def Tryz.lays311_ren : Go.Shelf.Ren := ⟨fun | 311 => 100 | n => n, fun | 193 => 177 | 49 => 181 | 4 => 4 | 3 => 3 | 0 => 0 | 226 => 201 | 198 => 183 | 46 => 122 | n => n, fun | n => n⟩
theorem Tryz.lays311 : Go.Proofs.Lays.n311 Tryz.prog Tryz.lays311_ren := {
  mixed := by kernel_rfl
  f311 := Tryz.func100.trans (congrArg some (by kernel_rfl))
  t0 := Tryz.underlying0
  a0 := Tryz.isAgg0
  z0 := Tryz.sizeOf0
  v0 := Tryz.zeroValue0
  t3 := Tryz.underlying3
  a3 := Tryz.isAgg3
  z3 := Tryz.sizeOf3
  v3 := Tryz.zeroValue3
  t4 := Tryz.underlying4
  a4 := Tryz.isAgg4
  z4 := Tryz.sizeOf4
  v4 := Tryz.zeroValue4
  t46 := Tryz.underlying122
  a46 := Tryz.isAgg122
  z46 := Tryz.sizeOf122
  v46 := Tryz.zeroValue122
  t49 := Tryz.underlying181
  a49 := Tryz.isAgg181
  z49 := Tryz.sizeOf181
  v49 := Tryz.zeroValue181
  t193 := Tryz.underlying177
  a193 := Tryz.isAgg177
  z193 := Tryz.sizeOf177
  v193 := Tryz.zeroValue177
  t198 := Tryz.underlying183
  a198 := Tryz.isAgg183
  z198 := Tryz.sizeOf183
  v198 := Tryz.zeroValue183
  t226 := Tryz.underlying201
  a226 := Tryz.isAgg201
  z226 := Tryz.sizeOf201
  v226 := Tryz.zeroValue201 }
open Go.RowKit Go.Lib in
theorem Tryz.unicode_is16_white (R oR : Nat) (z : Nat) (w : World) (hz : z < 65536) (hz0 : 255 < z) (c6 : w.cell? ⟨R, oR + 6, none⟩ = some (.int .u16 160)) (c7 : w.cell? ⟨R, oR + 7, none⟩ = some (.int .u16 5760)) (c8 : w.cell? ⟨R, oR + 8, none⟩ = some (.int .u16 5600)) (c9 : w.cell? ⟨R, oR + 9, none⟩ = some (.int .u16 8192)) (c10 : w.cell? ⟨R, oR + 10, none⟩ = some (.int .u16 8202)) (c11 : w.cell? ⟨R, oR + 11, none⟩ = some (.int .u16 1)) (c12 : w.cell? ⟨R, oR + 12, none⟩ = some (.int .u16 8232)) (c13 : w.cell? ⟨R, oR + 13, none⟩ = some (.int .u16 8233)) (c14 : w.cell? ⟨R, oR + 14, none⟩ = some (.int .u16 1)) (c15 : w.cell? ⟨R, oR + 15, none⟩ = some (.int .u16 8239)) (c16 : w.cell? ⟨R, oR + 16, none⟩ = some (.int .u16 8287)) (c17 : w.cell? ⟨R, oR + 17, none⟩ = some (.int .u16 48)) (c18 : w.cell? ⟨R, oR + 18, none⟩ = some (.int .u16 12288)) (c19 : w.cell? ⟨R, oR + 19, none⟩ = some (.int .u16 12288)) (c20 : w.cell? ⟨R, oR + 20, none⟩ = some (.int .u16 1)) :
    Calls Tryz.prog 100 #[.slice (some ⟨R, oR + 6, none⟩) 5 5, .int .u16 z] w fun e w' => e = .returned (.bool (Lib.isSpaceR z)) ∧ Below w.heap.size w w' := Any.unicode_is16_white Tryz.lays311 R oR z w hz hz0 c6 c7 c8 c9 c10 c11 c12 c13 c14 c15 c16 c17 c18 c19 c20
def Tryz.lays261_ren : Go.Shelf.Ren := ⟨fun | 261 => 86 | 311 => 100 | 312 => 101 | n => n, fun | 141 => 160 | 21 => 21 | 4 => 4 | 0 => 0 | 196 => 180 | 193 => 177 | 3 => 3 | 51 => 117 | 198 => 183 | 49 => 181 | 194 => 178 | 201 => 186 | 226 => 201 | 46 => 122 | 227 => 202 | n => n, fun | n => n⟩
theorem Tryz.lays261 : Go.Proofs.Lays.n261 Tryz.prog Tryz.lays261_ren := {
  mixed := by kernel_rfl
  f261 := Tryz.func86.trans (congrArg some (by kernel_rfl))
  f311 := Tryz.func100.trans (congrArg some (by kernel_rfl))
  f312 := Tryz.func101.trans (congrArg some (by kernel_rfl))
  t0 := Tryz.underlying0
  a0 := Tryz.isAgg0
  z0 := Tryz.sizeOf0
  v0 := Tryz.zeroValue0
  t3 := Tryz.underlying3
  a3 := Tryz.isAgg3
  z3 := Tryz.sizeOf3
  v3 := Tryz.zeroValue3
  t4 := Tryz.underlying4
  a4 := Tryz.isAgg4
  z4 := Tryz.sizeOf4
  v4 := Tryz.zeroValue4
  t21 := Tryz.underlying21
  a21 := Tryz.isAgg21
  z21 := Tryz.sizeOf21
  v21 := Tryz.zeroValue21
  t46 := Tryz.underlying122
  a46 := Tryz.isAgg122
  z46 := Tryz.sizeOf122
  v46 := Tryz.zeroValue122
  t49 := Tryz.underlying181
  a49 := Tryz.isAgg181
  z49 := Tryz.sizeOf181
  v49 := Tryz.zeroValue181
  t51 := Tryz.underlying117
  a51 := Tryz.isAgg117
  z51 := Tryz.sizeOf117
  v51 := Tryz.zeroValue117
  t141 := Tryz.underlying160
  a141 := Tryz.isAgg160
  z141 := Tryz.sizeOf160
  v141 := Tryz.zeroValue160
  t193 := Tryz.underlying177
  a193 := Tryz.isAgg177
  z193 := Tryz.sizeOf177
  v193 := Tryz.zeroValue177
  t194 := Tryz.underlying178
  a194 := Tryz.isAgg178
  z194 := Tryz.sizeOf178
  v194 := Tryz.zeroValue178
  t196 := Tryz.underlying180
  a196 := Tryz.isAgg180
  z196 := Tryz.sizeOf180
  v196 := Tryz.zeroValue180
  t198 := Tryz.underlying183
  a198 := Tryz.isAgg183
  z198 := Tryz.sizeOf183
  v198 := Tryz.zeroValue183
  t201 := Tryz.underlying186
  a201 := Tryz.isAgg186
  z201 := Tryz.sizeOf186
  v201 := Tryz.zeroValue186
  t226 := Tryz.underlying201
  a226 := Tryz.isAgg201
  z226 := Tryz.sizeOf201
  v226 := Tryz.zeroValue201
  t227 := Tryz.underlying202
  a227 := Tryz.isAgg202
  z227 := Tryz.sizeOf202
  v227 := Tryz.zeroValue202 }
open Go.RowKit Go.Lib in
theorem Tryz.unicode_isExcludingLatin_white (T oT R oR : Nat) (r : Int) (w : World) (hlo : -2147483648 ≤ r) (hhi : r ≤ 2147483647) (hr : r < 0 ∨ 255 < r) (h2 : w.cell? ⟨T, oT, none⟩ = some (.slice (some ⟨R, oR, none⟩) 7 7)) (h3 : w.cell? ⟨T, oT + 1, none⟩ = some (.slice none 0 0)) (h4 : w.cell? ⟨T, oT + 2, none⟩ = some (.int .i64 2)) (h5 : ∀ i, i < 21 → w.cell? ⟨R, oR + i, none⟩ = some (.int .u16 (whiteT.getD i 0))) :
    Calls Tryz.prog 86 #[.pointer (some ⟨T, oT, none⟩), .int .i32 r] w fun e w' => e = .returned (.bool (Lib.isSpaceZ r)) ∧ Below w.heap.size w w' := Any.unicode_isExcludingLatin_white Tryz.lays261 T oT R oR r w hlo hhi hr h2 h3 h4 h5
open Go.RowKit Go.Lib in
theorem Tryz.unicode_IsSpace_any (r : Int) (w : World) (hlo : -2147483648 ≤ r) (hhi : r ≤ 2147483647) (hW : Lib.WhiteTab 1 w) :
    Calls Tryz.prog 63 #[.int .i32 r] w fun e w' => e = .returned (.bool (Lib.isSpaceZ r)) ∧ Below w.heap.size w w' := Any.unicode_IsSpace_any Tryz.lays199 r w hlo hhi hW
def Tryz.lays271_ren : Go.Shelf.Ren := ⟨fun | 271 => 102 | 120 => 118 | 197 => 88 | 260 => 103 | n => n, fun | 9 => 9 | 21 => 21 | 3 => 3 | 4 => 4 | 5 => 5 | 105 => 162 | 119 => 134 | 0 => 0 | 46 => 122 | 139 => 206 | 138 => 205 | n => n, fun | 3 => 2 | 4 => 3 | n => n⟩
theorem Tryz.lays271 : Go.Proofs.Lays.n271 Tryz.prog Tryz.lays271_ren := {
  mixed := by kernel_rfl
  f120 := Tryz.func118.trans (congrArg some (by kernel_rfl))
  f197 := Tryz.func88.trans (congrArg some (by kernel_rfl))
  f260 := Tryz.func103.trans (congrArg some (by kernel_rfl))
  f271 := Tryz.func102.trans (congrArg some (by kernel_rfl))
  t0 := Tryz.underlying0
  a0 := Tryz.isAgg0
  z0 := Tryz.sizeOf0
  v0 := Tryz.zeroValue0
  t3 := Tryz.underlying3
  a3 := Tryz.isAgg3
  z3 := Tryz.sizeOf3
  v3 := Tryz.zeroValue3
  t4 := Tryz.underlying4
  a4 := Tryz.isAgg4
  z4 := Tryz.sizeOf4
  v4 := Tryz.zeroValue4
  t5 := Tryz.underlying5
  a5 := Tryz.isAgg5
  z5 := Tryz.sizeOf5
  v5 := Tryz.zeroValue5
  t9 := Tryz.underlying9
  a9 := Tryz.isAgg9
  z9 := Tryz.sizeOf9
  v9 := Tryz.zeroValue9
  t21 := Tryz.underlying21
  a21 := Tryz.isAgg21
  z21 := Tryz.sizeOf21
  v21 := Tryz.zeroValue21
  t46 := Tryz.underlying122
  a46 := Tryz.isAgg122
  z46 := Tryz.sizeOf122
  v46 := Tryz.zeroValue122
  t105 := Tryz.underlying162
  a105 := Tryz.isAgg162
  z105 := Tryz.sizeOf162
  v105 := Tryz.zeroValue162
  t119 := Tryz.underlying134
  a119 := Tryz.isAgg134
  z119 := Tryz.sizeOf134
  t138 := Tryz.underlying205
  a138 := Tryz.isAgg205
  z138 := Tryz.sizeOf205
  v138 := Tryz.zeroValue205
  t139 := Tryz.underlying206
  a139 := Tryz.isAgg206
  z139 := Tryz.sizeOf206
  v139 := Tryz.zeroValue206
  g3 := by kernel_rfl
  g4 := by kernel_rfl }
open Go.RowKit Go.Lib in
theorem Tryz.utf8_DecodeLastRuneInString (s : ByteArray) (w : World) (hs : s.size ≤ 9223372036854775807) (hT : Lib.Utf8Tabs 2 3 w) :
    Calls Tryz.prog 102 #[.string s] w fun e w' => e = .returned (.tuple #[.int .i32 (Lib.decodeLastL s.data.toList).1, .int .i64 (Lib.decodeLastL s.data.toList).2]) ∧ Below w.heap.size w w' := Any.utf8_DecodeLastRuneInString Tryz.lays271 s w hs hT
open Go.RowKit Go.Lib in
theorem Tryz.unicode_is16_any (T : Array Rg) (R oR cap : Nat) (z : Nat) (w : World) (hz : z < 65536) (hT : RgTab .u16 R oR T w) (hok : RgOk 65536 T) (hn : T.size ≤ 1000000000) :
    Calls Tryz.prog 100 #[.slice (some ⟨R, oR, none⟩) T.size cap, .int .u16 z] w fun e w' => e = .returned (.bool (is16Go T z)) ∧ ∃ q, w' = w.drewN q := Any.unicode_is16_any Tryz.lays311 T R oR cap z w hz hT hok hn
def Tryz.lays312_ren : Go.Shelf.Ren := ⟨fun | 312 => 101 | n => n, fun | 194 => 178 | 51 => 117 | 4 => 4 | 3 => 3 | 0 => 0 | 227 => 202 | 201 => 186 | 46 => 122 | n => n, fun | n => n⟩
theorem Tryz.lays312 : Go.Proofs.Lays.n312 Tryz.prog Tryz.lays312_ren := {
  mixed := by kernel_rfl
  f312 := Tryz.func101.trans (congrArg some (by kernel_rfl))
  t0 := Tryz.underlying0
  a0 := Tryz.isAgg0
  z0 := Tryz.sizeOf0
  v0 := Tryz.zeroValue0
  t3 := Tryz.underlying3
  a3 := Tryz.isAgg3
  z3 := Tryz.sizeOf3
  v3 := Tryz.zeroValue3
  t4 := Tryz.underlying4
  a4 := Tryz.isAgg4
  z4 := Tryz.sizeOf4
  v4 := Tryz.zeroValue4
  t46 := Tryz.underlying122
  a46 := Tryz.isAgg122
  z46 := Tryz.sizeOf122
  v46 := Tryz.zeroValue122
  t51 := Tryz.underlying117
  a51 := Tryz.isAgg117
  z51 := Tryz.sizeOf117
  v51 := Tryz.zeroValue117
  t194 := Tryz.underlying178
  a194 := Tryz.isAgg178
  z194 := Tryz.sizeOf178
  v194 := Tryz.zeroValue178
  t201 := Tryz.underlying186
  a201 := Tryz.isAgg186
  z201 := Tryz.sizeOf186
  v201 := Tryz.zeroValue186
  t227 := Tryz.underlying202
  a227 := Tryz.isAgg202
  z227 := Tryz.sizeOf202
  v227 := Tryz.zeroValue202 }
open Go.RowKit Go.Lib in
theorem Tryz.unicode_is32_any (T : Array Rg) (R oR cap : Nat) (z : Nat) (w : World) (hz : z < 4294967296) (hT : RgTab .u32 R oR T w) (hok : RgOk 4294967296 T) (hn : T.size ≤ 1000000000) :
    Calls Tryz.prog 101 #[.slice (some ⟨R, oR, none⟩) T.size cap, .int .u32 z] w fun e w' => e = .returned (.bool (is32Go T z)) ∧ Below w.heap.size w w' := Any.unicode_is32_any Tryz.lays312 T R oR cap z w hz hT hok hn
open Go.RowKit Go.Lib in
theorem Tryz.unicode_isExcludingLatin_any (Tb oT : Nat) (T : RTab) (r : Int) (w : World) (hlo : -2147483648 ≤ r) (hhi : r ≤ 2147483647) (hA : RTabAt Tb oT T w) (hok : RTabOk T) :
    Calls Tryz.prog 86 #[.pointer (some ⟨Tb, oT, none⟩), .int .i32 r] w fun e w' => e = .returned (.bool (exclGo T r)) ∧ Below w.heap.size w w' := Any.unicode_isExcludingLatin_any Tryz.lays261 Tb oT T r w hlo hhi hA hok
def Tryz.laysNm237_ren : Go.Shelf.Ren := ⟨fun | 37 => 95 | n => n, fun | 3 => 3 | 4 => 4 | n => n, fun | n => n⟩
theorem Tryz.laysNm237 : Go.Proofs.Lays2.n37 Tryz.prog Tryz.laysNm237_ren := {
  mixed := by kernel_rfl
  f37 := Tryz.func95.trans (congrArg some (by kernel_rfl))
  t3 := Tryz.underlying3
  a3 := Tryz.isAgg3
  z3 := Tryz.sizeOf3
  v3 := Tryz.zeroValue3
  t4 := Tryz.underlying4
  a4 := Tryz.isAgg4
  z4 := Tryz.sizeOf4
  v4 := Tryz.zeroValue4 }
open Go.RowKit Go.Lib in
theorem Tryz.cmp_isNaN_int2 (x : Int) (w : World) :
    Calls Tryz.prog 95 #[.int .i64 x] w fun e w' => e = .returned (.bool false) ∧ w' = w := Any.cmp_isNaN_int2 Tryz.laysNm237 x w
def Tryz.laysNm231_ren : Go.Shelf.Ren := ⟨fun | 31 => 75 | 37 => 95 | n => n, fun | 3 => 3 | 4 => 4 | n => n, fun | n => n⟩
theorem Tryz.laysNm231 : Go.Proofs.Lays2.n31 Tryz.prog Tryz.laysNm231_ren := {
  mixed := by kernel_rfl
  f31 := Tryz.func75.trans (congrArg some (by kernel_rfl))
  f37 := Tryz.func95.trans (congrArg some (by kernel_rfl))
  t3 := Tryz.underlying3
  a3 := Tryz.isAgg3
  z3 := Tryz.sizeOf3
  v3 := Tryz.zeroValue3
  t4 := Tryz.underlying4
  a4 := Tryz.isAgg4
  z4 := Tryz.sizeOf4
  v4 := Tryz.zeroValue4 }
open Go.RowKit Go.Lib in
theorem Tryz.cmp_Less_int2 (x y : Int) (w : World) :
    Calls Tryz.prog 75 #[.int .i64 x, .int .i64 y] w fun e w' => e = .returned (.bool (decide (x < y))) ∧ w' = w := Any.cmp_Less_int2 Tryz.laysNm231 x y w
open Go.RowKit Go.Sort in
theorem Tryz.slices_Sort_string_none (p : Option Addr) (cap : Nat) (w : World) :
    Calls Tryz.prog 83 #[.slice p 0 cap] w fun e w' => e = .returned (.tuple #[]) ∧ w' = w := Any.slices_Sort_string_none Tryz.lays190 p cap w
open Go.RowKit Go.Sort in
theorem Tryz.slices_Sort_int_none (p : Option Addr) (cap : Nat) (w : World) :
    Calls Tryz.prog 46 #[.slice p 0 cap] w fun e w' => e = .returned (.tuple #[]) ∧ w' = w := Any.slices_Sort_int_none Tryz.lays189 p cap w
open Go.RowKit Go.Sort in
theorem Tryz.sort_Strings_none (p : Option Addr) (cap : Nat) (w : World) :
    Calls Tryz.prog 59 #[.slice p 0 cap] w fun e w' => e = .returned (.tuple #[]) ∧ w' = w := Any.sort_Strings_none Tryz.lays192 p cap w
open Go.RowKit Go.Sort in
theorem Tryz.sort_Ints_none (p : Option Addr) (cap : Nat) (w : World) :
    Calls Tryz.prog 32 #[.slice p 0 cap] w fun e w' => e = .returned (.tuple #[]) ∧ w' = w := Any.sort_Ints_none Tryz.lays191 p cap w
def Tryz.laysnb116_ren : Go.Shelf.Ren := ⟨fun | 116 => 29 | 115 => 40 | n => n, fun | 37 => 32 | 4 => 4 | 3 => 3 | 9 => 9 | 5 => 5 | n => n, fun | n => n⟩
theorem Tryz.laysnb116 : Go.Proofs.Lays.nb116 Tryz.prog Tryz.laysnb116_ren := {
  mixed := by kernel_rfl
  f115 := Tryz.func40.trans (congrArg some (by kernel_rfl))
  f116 := Tryz.func29.trans (congrArg some (by kernel_rfl))
  t3 := Tryz.underlying3
  a3 := Tryz.isAgg3
  z3 := Tryz.sizeOf3
  v3 := Tryz.zeroValue3
  t4 := Tryz.underlying4
  a4 := Tryz.isAgg4
  z4 := Tryz.sizeOf4
  v4 := Tryz.zeroValue4
  t9 := Tryz.underlying9
  a9 := Tryz.isAgg9
  z9 := Tryz.sizeOf9
  v9 := Tryz.zeroValue9
  t37 := Tryz.underlying32
  a37 := Tryz.isAgg32
  z37 := Tryz.sizeOf32
  v37 := Tryz.zeroValue32
  t5 := Tryz.underlying5
  a5 := Tryz.isAgg5
  z5 := Tryz.sizeOf5
  v5 := Tryz.zeroValue5 }
theorem Tryz.bytes_HasPrefix_e2 (p1 p2 : Option Addr) (n c d : Nat) (w : World) :
    Calls Tryz.prog 29 #[.slice p1 n c, .slice p2 0 d] w fun e w' => e = .returned (.bool true) ∧ w' = w := Any.bytes_HasPrefix_e2 Tryz.laysnb116 p1 p2 n c d w
theorem Tryz.bytes_HasPrefix_e1 (p1 p2 : Option Addr) (c m d : Nat) (hm : 0 < m) (w : World) :
    Calls Tryz.prog 29 #[.slice p1 0 c, .slice p2 m d] w fun e w' => e = .returned (.bool false) ∧ w' = w := Any.bytes_HasPrefix_e1 Tryz.laysnb116 p1 p2 c m d hm w
def Tryz.laysnb117_ren : Go.Shelf.Ren := ⟨fun | 117 => 45 | 115 => 40 | n => n, fun | 37 => 32 | 4 => 4 | 3 => 3 | 9 => 9 | 5 => 5 | n => n, fun | n => n⟩
theorem Tryz.laysnb117 : Go.Proofs.Lays.nb117 Tryz.prog Tryz.laysnb117_ren := {
  mixed := by kernel_rfl
  f115 := Tryz.func40.trans (congrArg some (by kernel_rfl))
  f117 := Tryz.func45.trans (congrArg some (by kernel_rfl))
  t3 := Tryz.underlying3
  a3 := Tryz.isAgg3
  z3 := Tryz.sizeOf3
  v3 := Tryz.zeroValue3
  t4 := Tryz.underlying4
  a4 := Tryz.isAgg4
  z4 := Tryz.sizeOf4
  v4 := Tryz.zeroValue4
  t9 := Tryz.underlying9
  a9 := Tryz.isAgg9
  z9 := Tryz.sizeOf9
  v9 := Tryz.zeroValue9
  t37 := Tryz.underlying32
  a37 := Tryz.isAgg32
  z37 := Tryz.sizeOf32
  v37 := Tryz.zeroValue32
  t5 := Tryz.underlying5
  a5 := Tryz.isAgg5
  z5 := Tryz.sizeOf5
  v5 := Tryz.zeroValue5 }
theorem Tryz.bytes_HasSuffix_e2 (p1 p2 : Option Addr) (n c d : Nat) (_hnc : n ≤ c) (hbig : n ≤ 9223372036854775807) (w : World) :
    Calls Tryz.prog 45 #[.slice p1 n c, .slice p2 0 d] w fun e w' => e = .returned (.bool true) ∧ w' = w := Any.bytes_HasSuffix_e2 Tryz.laysnb117 p1 p2 n c d _hnc hbig w
theorem Tryz.bytes_HasSuffix_e1 (p1 p2 : Option Addr) (c m d : Nat) (hm : 0 < m) (w : World) :
    Calls Tryz.prog 45 #[.slice p1 0 c, .slice p2 m d] w fun e w' => e = .returned (.bool false) ∧ w' = w := Any.bytes_HasSuffix_e1 Tryz.laysnb117 p1 p2 c m d hm w
theorem Tryz.bytes_HasPrefix_all (p1 p2 : Option Addr) (n c m d : Nat) (xs ys : List Int) (w : World) (hx : xs.length = n) (hy : ys.length = m) (hnc : n ≤ c) (h1 : Lib.BytesIn w p1 n xs) (h2 : Lib.BytesIn w p2 m ys) :
    Calls Tryz.prog 29 #[.slice p1 n c, .slice p2 m d] w fun e w' => e = .returned (.bool (Lib.hasPrefix (Lib.bytesOf xs) (Lib.bytesOf ys))) ∧ w' = w := Any.bytes_HasPrefix_all Tryz.laysnb116 p1 p2 n c m d xs ys w hx hy hnc h1 h2
theorem Tryz.bytes_HasSuffix_all (p1 p2 : Option Addr) (n c m d : Nat) (xs ys : List Int) (w : World) (hx : xs.length = n) (hy : ys.length = m) (hnc : n ≤ c) (hbig : n ≤ 9223372036854775807) (h1 : Lib.BytesIn w p1 n xs) (h2 : Lib.BytesIn w p2 m ys) :
    Calls Tryz.prog 45 #[.slice p1 n c, .slice p2 m d] w fun e w' => e = .returned (.bool (Lib.hasSuffix (Lib.bytesOf xs) (Lib.bytesOf ys))) ∧ w' = w := Any.bytes_HasSuffix_all Tryz.laysnb117 p1 p2 n c m d xs ys w hx hy hnc hbig h1 h2
def Tryz.lays115_ren : Go.Shelf.Ren := ⟨fun | 115 => 40 | n => n, fun | 37 => 32 | 4 => 4 | 9 => 9 | 5 => 5 | n => n, fun | n => n⟩
theorem Tryz.lays115 : Go.Proofs.Lays.n115 Tryz.prog Tryz.lays115_ren := {
  mixed := by kernel_rfl
  f115 := Tryz.func40.trans (congrArg some (by kernel_rfl))
  t4 := Tryz.underlying4
  a4 := Tryz.isAgg4
  z4 := Tryz.sizeOf4
  v4 := Tryz.zeroValue4
  t9 := Tryz.underlying9
  a9 := Tryz.isAgg9
  z9 := Tryz.sizeOf9
  v9 := Tryz.zeroValue9
  t37 := Tryz.underlying32
  a37 := Tryz.isAgg32
  z37 := Tryz.sizeOf32
  v37 := Tryz.zeroValue32 }
theorem Tryz.bytes_Equal (v1 v2 : Value) (xs ys : List Int) (w : World) (h1 : (convert 32 9 v1).run Tryz.prog w = .ok (.string (strOfNums xs)) w) (h2 : (convert 32 9 v2).run Tryz.prog w = .ok (.string (strOfNums ys)) w) :
    Calls Tryz.prog 40 #[v1, v2] w fun e w' => e = .returned (.bool (Lib.bytesOf xs == Lib.bytesOf ys)) ∧ w' = w := Any.bytes_Equal Tryz.lays115 v1 v2 xs ys w h1 h2
theorem Tryz.bytes_HasPrefix (b1 o1 n c b2 o2 m d : Nat) (xs ys : List Int) (w : World) (hx : xs.length = n) (hy : ys.length = m) (hnc : n ≤ c) (hc1 : ∀ i, i < n → w.cell? ⟨b1, o1 + i, none⟩ = some (.int .u8 (xs.getD i 0))) (hc2 : ∀ i, i < m → w.cell? ⟨b2, o2 + i, none⟩ = some (.int .u8 (ys.getD i 0))) :
    Calls Tryz.prog 29 #[.slice (some ⟨b1, o1, none⟩) n c, .slice (some ⟨b2, o2, none⟩) m d] w fun e w' => e = .returned (.bool (Lib.hasPrefix (Lib.bytesOf xs) (Lib.bytesOf ys))) ∧ w' = w := Any.bytes_HasPrefix Tryz.laysnb116 b1 o1 n c b2 o2 m d xs ys w hx hy hnc hc1 hc2
theorem Tryz.bytes_HasSuffix (b1 o1 n c b2 o2 m d : Nat) (xs ys : List Int) (w : World) (hx : xs.length = n) (hy : ys.length = m) (hnc : n ≤ c) (hbig : n ≤ 9223372036854775807) (hc1 : ∀ i, i < n → w.cell? ⟨b1, o1 + i, none⟩ = some (.int .u8 (xs.getD i 0))) (hc2 : ∀ i, i < m → w.cell? ⟨b2, o2 + i, none⟩ = some (.int .u8 (ys.getD i 0))) :
    Calls Tryz.prog 45 #[.slice (some ⟨b1, o1, none⟩) n c, .slice (some ⟨b2, o2, none⟩) m d] w fun e w' => e = .returned (.bool (Lib.hasSuffix (Lib.bytesOf xs) (Lib.bytesOf ys))) ∧ w' = w := Any.bytes_HasSuffix Tryz.laysnb117 b1 o1 n c b2 o2 m d xs ys w hx hy hnc hbig hc1 hc2
end Go.Proofs
