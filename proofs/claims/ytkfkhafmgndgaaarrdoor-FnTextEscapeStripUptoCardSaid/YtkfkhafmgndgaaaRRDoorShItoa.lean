/-
  Laid by the kit's own tool: strconv.Itoa's contract at this translation. Conditions: the table of powers of ten reads as laid.
-/
import Derived.Shelf.Strconv.Itoa3
import Derived.Test.YtkfkhafmgndgaaaRRDoorProg
namespace Go.Proofs
open Go.Shelf
def Tryd.laysM171_ren : Go.Shelf.Ren := ⟨fun | 171 => 24 | 243 => 33 | 246 => 51 | 283 => 66 | 284 => 67 | 285 => 68 | 286 => 69 | 129 => 79 | 317 => 78 | 318 => 80 | 319 => 81 | 320 => 82 | 337 => 86 | 338 => 87 | n => n, fun | 3 => 3 | 9 => 9 | 2 => 2 | 4 => 4 | 171 => 82 | 0 => 0 | 53 => 81 | 37 => 38 | 5 => 5 | 173 => 85 | 212 => 106 | 51 => 76 | 20 => 20 | 213 => 107 | 46 => 75 | 232 => 112 | 233 => 104 | n => n, fun | 17 => 8 | 18 => 10 | 19 => 11 | n => n⟩
theorem Tryd.laysM171 : Go.Proofs.LaysM.n171 Tryd.prog Tryd.laysM171_ren := {
  mixed := by kernel_rfl
  f129 := Tryd.func79.trans (congrArg some (by kernel_rfl))
  f171 := Tryd.func24.trans (congrArg some (by kernel_rfl))
  f243 := Tryd.func33.trans (congrArg some (by kernel_rfl))
  f246 := Tryd.func51.trans (congrArg some (by kernel_rfl))
  f283 := Tryd.func66.trans (congrArg some (by kernel_rfl))
  f284 := Tryd.func67.trans (congrArg some (by kernel_rfl))
  f285 := Tryd.func68.trans (congrArg some (by kernel_rfl))
  f286 := Tryd.func69.trans (congrArg some (by kernel_rfl))
  f317 := Tryd.func78.trans (congrArg some (by kernel_rfl))
  f318 := Tryd.func80.trans (congrArg some (by kernel_rfl))
  f319 := Tryd.func81.trans (congrArg some (by kernel_rfl))
  f320 := Tryd.func82.trans (congrArg some (by kernel_rfl))
  f337 := Tryd.func86.trans (congrArg some (by kernel_rfl))
  f338 := Tryd.func87.trans (congrArg some (by kernel_rfl))
  t0 := Tryd.underlying0
  a0 := Tryd.isAgg0
  z0 := Tryd.sizeOf0
  v0 := Tryd.zeroValue0
  t2 := Tryd.underlying2
  a2 := Tryd.isAgg2
  z2 := Tryd.sizeOf2
  v2 := Tryd.zeroValue2
  t3 := Tryd.underlying3
  a3 := Tryd.isAgg3
  z3 := Tryd.sizeOf3
  v3 := Tryd.zeroValue3
  t4 := Tryd.underlying4
  a4 := Tryd.isAgg4
  z4 := Tryd.sizeOf4
  v4 := Tryd.zeroValue4
  t5 := Tryd.underlying5
  a5 := Tryd.isAgg5
  z5 := Tryd.sizeOf5
  v5 := Tryd.zeroValue5
  t9 := Tryd.underlying9
  a9 := Tryd.isAgg9
  z9 := Tryd.sizeOf9
  v9 := Tryd.zeroValue9
  t20 := Tryd.underlying20
  a20 := Tryd.isAgg20
  z20 := Tryd.sizeOf20
  v20 := Tryd.zeroValue20
  t37 := Tryd.underlying38
  a37 := Tryd.isAgg38
  z37 := Tryd.sizeOf38
  v37 := Tryd.zeroValue38
  t46 := Tryd.underlying75
  a46 := Tryd.isAgg75
  z46 := Tryd.sizeOf75
  v46 := Tryd.zeroValue75
  t51 := Tryd.underlying76
  a51 := Tryd.isAgg76
  z51 := Tryd.sizeOf76
  v51 := Tryd.zeroValue76
  t53 := Tryd.underlying81
  a53 := Tryd.isAgg81
  z53 := Tryd.sizeOf81
  v53 := Tryd.zeroValue81
  t171 := Tryd.underlying82
  a171 := Tryd.isAgg82
  z171 := Tryd.sizeOf82
  v171 := Tryd.zeroValue82
  t173 := Tryd.underlying85
  a173 := Tryd.isAgg85
  z173 := Tryd.sizeOf85
  v173 := Tryd.zeroValue85
  t212 := Tryd.underlying106
  a212 := Tryd.isAgg106
  z212 := Tryd.sizeOf106
  v212 := Tryd.zeroValue106
  t213 := Tryd.underlying107
  a213 := Tryd.isAgg107
  z213 := Tryd.sizeOf107
  t232 := Tryd.underlying112
  a232 := Tryd.isAgg112
  z232 := Tryd.sizeOf112
  v232 := Tryd.zeroValue112
  t233 := Tryd.underlying104
  a233 := Tryd.isAgg104
  z233 := Tryd.sizeOf104
  v233 := Tryd.zeroValue104
  g17 := by kernel_rfl
  g18 := by kernel_rfl
  g19 := by kernel_rfl
  i0 := by kernel_rfl
  i2 := by kernel_rfl
  i3 := by kernel_rfl
  i4 := by kernel_rfl
  i5 := by kernel_rfl
  i9 := by kernel_rfl
  i20 := by kernel_rfl
  i37 := by kernel_rfl
  i46 := by kernel_rfl
  i51 := by kernel_rfl
  i53 := by kernel_rfl
  i171 := by kernel_rfl
  i173 := by kernel_rfl
  i212 := by kernel_rfl
  i232 := by kernel_rfl
  i233 := by kernel_rfl
  m17 := by kernel_rfl
  m18 := by kernel_rfl
  m19 := by kernel_rfl }
open Go.RowKit Go.Sort Go.Lib in
theorem Tryd.strconv_Itoa (n : Int) (h0 : -9223372036854775808 ≤ n) (h1 : n ≤ 9223372036854775807) (w : World) (htab : Lib.TabIs Tryd.prog w "internal/strconv.uint64pow10" .u64 Lib.pow10Tab) :
    Calls Tryd.prog 24 #[.int .i64 n] w fun e w' => e = .returned (.string ⟨(Lib.itoa n).toArray⟩) ∧ ∃ k os, w' = grow (w.drewN k) os := Any.strconv_Itoa Tryd.laysM171 n h0 h1 w htab
end Go.Proofs
