/-
  Proved: what the row's listed variables give: the tables read as laid. Conditions: none.
-/
import Derived.Test.YtjioibigijflpaaDoorRows
import Derived.Test.YtjioibigijflpaaDoorCamS
import Derived.WalkKit
import Derived.ProofKit
import Derived.Lib.LaidTab
import Derived.Lib.LaidU8
import Derived.Stop.LaidErr
namespace Go.Proofs.YtjioibigijflpaaDoor.Given
def Tab (w : World) : Prop := CamS.T w
end Go.Proofs.YtjioibigijflpaaDoor.Given
namespace Go.Proofs.YtjioibigijflpaaDoor.Laid
open Go.RowKit Go.Lib Go.Proofs.YtjioibigijflpaaDoorW.PrintWords Go.Proofs.YtjioibigijflpaaDoor.Given
theorem gProp : Tryd.prog.globalNamed "unicode.properties" = some 2 := by kernel_rfl
theorem gSpace : Tryd.prog.globalNamed "strings.asciiSpace" = some 6 := by kernel_rfl
theorem dProp : (Rows.laid_unicode_properties : DataW Unit) = Lib.tabData .u8 Lib.propertiesTab := by kernel_rfl
theorem dSpace : (Rows.laid_strings_asciiSpace : DataW Unit) = Lib.tabData .u8 Lib.asciiSpaceTab := by kernel_rfl
theorem dAcc : (Rows.laid_unicode_utf8_acceptRanges : DataW Unit) = acceptData := by kernel_rfl
theorem dFirst : Rows.laid_unicode_utf8_first = firstData := by kernel_rfl
theorem extra : U8Extra Tryd.prog Tryd.lays260_ren := ⟨by kernel_rfl, by kernel_rfl, by kernel_rfl, by kernel_rfl, by kernel_rfl, by kernel_rfl, by kernel_rfl⟩
set_option maxRecDepth 100000 in
theorem table {W : World} (h : laidMetH Tryd.prog Rows.fnCamelDigitsRow.laid W) : Tab W := by
  have h1 : laidMet Tryd.prog Rows.fnCamelDigitsRow.laid W := h
  have h2 : laidMet Tryd.prog [("unicode/utf8.acceptRanges", Rows.laid_unicode_utf8_acceptRanges), ("unicode.White_Space", Rows.laid_unicode_White_Space), ("unicode.properties", Rows.laid_unicode_properties), ("strings.asciiSpace", Rows.laid_strings_asciiSpace), ("unicode.Digit", Rows.laid_unicode_Digit), ("unicode.Lower", Rows.laid_unicode_Lower), ("unicode.Upper", Rows.laid_unicode_Upper), ("unicode/utf8.first", Rows.laid_unicode_utf8_first)] W := h1
  have h3 := laidMet.tail (laidMet.tail h2)
  have h4 := laidMet.tail h3
  rw [dProp] at h3
  rw [dSpace] at h4
  refine ⟨Lib.tabBelow_of_tabIs (Lib.tabIs_of_head (rest := _) (t := 75) (e := 5) (n := 256) gProp (by kernel_rfl) (by kernel_rfl) (by kernel_rfl) (by kernel_rfl) (by kernel_rfl) h3), Lib.tabBelow_of_tabIs (Lib.tabIs_of_head (rest := _) (t := 75) (e := 5) (n := 256) gSpace (by kernel_rfl) (by kernel_rfl) (by kernel_rfl) (by kernel_rfl) (by kernel_rfl) h4), ?_⟩
  obtain ⟨ps, hps, _⟩ := h2
  have r1 := LaidVars_reads hps "unicode/utf8.acceptRanges" _ (.head _)
  have r2 := LaidVars_reads hps "unicode/utf8.first" _ (.tail _ (.tail _ (.tail _ (.tail _ (.tail _ (.tail _ (.tail _ (.head _))))))))
  rw [dAcc] at r1
  rw [dFirst] at r2
  exact utf8Tabs_of_reads Tryd.lays260 extra r2 r1
end Go.Proofs.YtjioibigijflpaaDoor.Laid
