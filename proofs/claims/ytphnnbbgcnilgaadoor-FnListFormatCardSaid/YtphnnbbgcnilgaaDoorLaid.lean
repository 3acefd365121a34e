/-
  Proved: what the row's listed variables give: the tables read as laid. Conditions: none.
-/
import Derived.Test.YtphnnbbgcnilgaaDoorRows
import Derived.Test.YtphnnbbgcnilgaaDoorFmD
import Derived.WalkKit
import Derived.ProofKit
import Derived.PinnedBridge
import Derived.Lib.LaidTab
import Derived.Lib.LaidU8
import Derived.Lib.LaidCase
import Derived.Lib.LaidRTab
import Derived.Stop.LaidErr
namespace Go.Proofs.YtphnnbbgcnilgaaDoor.Given
def Tab (w : World) : Prop := FmC.Tb w
end Go.Proofs.YtphnnbbgcnilgaaDoor.Given
namespace Go.Proofs.YtphnnbbgcnilgaaDoor.Laid
open Go.RowKit Go.Lib Go.Proofs.YtphnnbbgcnilgaaDoorW.PrintWords Go.Proofs.YtphnnbbgcnilgaaDoor.Given
theorem dProp : (Rows.laid_unicode_properties : DataW Unit) = Lib.tabData .u8 Lib.propertiesTab := by kernel_rfl
theorem dAcc : (Rows.laid_unicode_utf8_acceptRanges : DataW Unit) = acceptData := by kernel_rfl
theorem dFirst : Rows.laid_unicode_utf8_first = firstData := by kernel_rfl
theorem dWhite : (Rows.laid_unicode_White_Space : DataW Unit) = whiteData := by kernel_rfl
theorem dCase : Rows.laid_unicode_CaseRanges = caseData := Pinned.caseRanges_eq
theorem dDigit : Rows.laid_unicode_Digit = rtabData digitT := Pinned.digit_eq
theorem dLetter : Rows.laid_unicode_Letter = rtabData letterT := Pinned.letter_eq
theorem xU : U8Extra Tryd.prog Tryd.lays230_ren := ⟨by kernel_rfl, by kernel_rfl, by kernel_rfl, by kernel_rfl, by kernel_rfl, by kernel_rfl, by kernel_rfl⟩
theorem xW : WhiteExtra Tryd.prog Tryd.lays199_ren := ⟨by kernel_rfl, by kernel_rfl, by kernel_rfl, by kernel_rfl, by kernel_rfl, by kernel_rfl, by kernel_rfl, by kernel_rfl⟩
theorem xC : CaseExtra Tryd.prog Tryd.lays203_ren := ⟨by kernel_rfl, by kernel_rfl, by kernel_rfl, by kernel_rfl, by kernel_rfl, by kernel_rfl⟩
theorem xL : RExtra Tryd.prog Tryd.lays200_ren := ⟨by kernel_rfl, by kernel_rfl, by kernel_rfl, by kernel_rfl, by kernel_rfl, by kernel_rfl, by kernel_rfl, by kernel_rfl⟩
theorem xD : RExtra Tryd.prog Tryd.lays198_ren := ⟨by kernel_rfl, by kernel_rfl, by kernel_rfl, by kernel_rfl, by kernel_rfl, by kernel_rfl, by kernel_rfl, by kernel_rfl⟩
set_option maxRecDepth 100000 in
theorem table {W : World} (h : laidMetH Tryd.prog Rows.fnListFormatRow.laid W) : Tab W := by
  have h1 : laidMet Tryd.prog Rows.fnListFormatRow.laid W := h
  have h2 : laidMet Tryd.prog [("unicode/utf8.acceptRanges", Rows.laid_unicode_utf8_acceptRanges), ("unicode.White_Space", Rows.laid_unicode_White_Space), ("unicode.properties", Rows.laid_unicode_properties), ("unicode.CaseRanges", Rows.laid_unicode_CaseRanges), ("unicode.Digit", Rows.laid_unicode_Digit), ("unicode.Letter", Rows.laid_unicode_Letter), ("unicode/utf8.first", Rows.laid_unicode_utf8_first)] W := h1
  have h3 := laidMet.tail (laidMet.tail h2)
  rw [dProp] at h3
  obtain ⟨ps, hps, _⟩ := h2
  have r1 := LaidVars_reads hps "unicode/utf8.acceptRanges" _ (.head _)
  have r2 := LaidVars_reads hps "unicode.White_Space" _ (.tail _ (.head _))
  have r3 := LaidVars_reads hps "unicode.CaseRanges" _ (.tail _ (.tail _ (.tail _ (.head _))))
  have r4 := LaidVars_reads hps "unicode.Digit" _ (.tail _ (.tail _ (.tail _ (.tail _ (.head _)))))
  have r5 := LaidVars_reads hps "unicode.Letter" _ (.tail _ (.tail _ (.tail _ (.tail _ (.tail _ (.head _))))))
  have r6 := LaidVars_reads hps "unicode/utf8.first" _ (.tail _ (.tail _ (.tail _ (.tail _ (.tail _ (.tail _ (.head _)))))))
  rw [dAcc] at r1
  rw [dWhite] at r2
  rw [dCase] at r3
  rw [dDigit] at r4
  rw [dLetter] at r5
  rw [dFirst] at r6
  exact ⟨caseVar_of_reads { Tryd.lays203 with } Tryd.lays203.t206 xC r3, utf8Tabs_of_reads { Tryd.lays230 with } xU r6 r1, Lib.tabIs_of_head (rest := _) (t := 123) (e := 5) (n := 256) FmC.gProp (by kernel_rfl) (by kernel_rfl) (by kernel_rfl) (by kernel_rfl) (by kernel_rfl) h3,
    rvar_of_reads { Tryd.lays200 with } xL (by kernel_rfl) (by kernel_rfl) r5, rvar_of_reads { Tryd.lays198 with } xD (by kernel_rfl) (by kernel_rfl) r4, whiteTab_of_reads Tryd.lays199 xW r2⟩
end Go.Proofs.YtphnnbbgcnilgaaDoor.Laid
