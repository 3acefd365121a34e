/-
  Proved: what the row's listed variables give: strings.asciiSpace reads as laid. Conditions: none.
-/
import Derived.Test.YtapbnbinoakbhaaDoorRows
import Derived.Test.YtapbnbinoakbhaaDoorTitL
import Derived.WalkKit
import Derived.ProofKit
import Derived.Lib.LaidTab
import Derived.Stop.LaidErr
namespace Go.Proofs.YtapbnbinoakbhaaDoor.Given
def Tab (w : World) : Prop := TitW.T w
end Go.Proofs.YtapbnbinoakbhaaDoor.Given
namespace Go.Proofs.YtapbnbinoakbhaaDoor.Laid
open Go.RowKit Go.Proofs.YtapbnbinoakbhaaDoorW.PrintWords Go.Proofs.YtapbnbinoakbhaaDoor.Given
theorem gTab : Tryd.prog.globalNamed "strings.asciiSpace" = some 0 := by kernel_rfl
theorem datum : (Rows.laid_strings_asciiSpace : DataW Unit) = Lib.tabData .u8 Lib.asciiSpaceTab := by kernel_rfl
set_option maxRecDepth 100000 in
theorem table {W : World} (h : laidMetH Tryd.prog Rows.fnTitleRow.laid W) : Tab W := by
  have h1 : laidMet Tryd.prog Rows.fnTitleRow.laid W := h
  have h2 : laidMet Tryd.prog (("strings.asciiSpace", Rows.laid_strings_asciiSpace) :: [("unicode.CaseRanges", Rows.laid_unicode_CaseRanges), ("unicode/utf8.first", Rows.laid_unicode_utf8_first)]) W := laidMet.tail (laidMet.tail h1)
  rw [datum] at h2
  exact Lib.tabBelow_of_tabIs (Lib.tabIs_of_head (rest := _) (t := 28) (e := 5) (n := 256) gTab (by kernel_rfl) (by kernel_rfl) (by kernel_rfl) (by kernel_rfl) (by kernel_rfl) h2)
end Go.Proofs.YtapbnbinoakbhaaDoor.Laid
namespace Go.Proofs.YtapbnbinoakbhaaDoor.TitL
open Go.RowKit Go.Proofs.YtapbnbinoakbhaaDoor.Common
theorem walk (a0 : ByteArray) (w0 : a0.size ≤ maxLen) (w : World) (hT : Given.Tab w) : Calls Tryd.prog 3 #[.string a0] w fun e w' => e = .returned (.bool true) ∧ Below w.heap.size w w' := by
  obtain ⟨l, rfl⟩ : ∃ l, a0 = ofL l := ⟨a0.data.toList, (ofL_of a0).symm⟩
  rw [TitT.ofL_size] at w0
  by_cases h : l.length ≤ 2147483647
  · exact law_c l h w hT
  · exact law_long l (by omega) w0 w
end Go.Proofs.YtapbnbinoakbhaaDoor.TitL
