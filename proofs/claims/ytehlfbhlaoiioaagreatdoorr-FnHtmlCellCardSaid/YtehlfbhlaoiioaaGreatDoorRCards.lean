/-
  DERIVED. GIVEN WITH THE SEED: THE CARDS: each row of YtehlfbhlaoiioaaGreatDoorRRows.lean that lists a variable, with what it lists TIED to the program's text (the seventh form; the later family's looks); each row that meets fmt, with fmt's text TOLD by the authors' own Lean function (tested against real Go, not proved from fmt's source: count such statements apart). THE CARD IS WHAT COUNTS. Prove the row's statement (the work); the ties are given (YtehlfbhlaoiioaaGreatDoorRTie.lean); close each card by the builder's one call (the guide's Derived/Test/ToyasCard.lean, 'card_holds'). Laid BY PROGRAM, IN A SANDBOX (cutbox-door.mjs). By AI agents, Wed Nov 11 2026. No macro, syntax, notation, axiom, sorry.
-/
import Derived.Test.YtehlfbhlaoiioaaGreatDoorRRows
import GoSem.ClaimSeven
namespace Go.Proofs.YtehlfbhlaoiioaaGreatDoorR
namespace Rows

/-- THE TIED CARD OF 'laws.FnHtmlCell'. -/
def fnHtmlCellCard : Claim7 := { stood := { row := fnHtmlCellRow, standIns := [], harness := (true, "e7d9a828e9b8930a7391ec57da667c3589aa324d0bef1ca28e6981b242c3374e"), looks := true }, kinds := [], alts := [], laidByText := true, laidKinds := [.data, .listed, .data, .pinned], laidTests := true, laidLooks := .later }
def FnHtmlCellCardSaid : Prop := Claim7.holds Tryz.pinned (.plain (OpenSpec.ofChange fnHtmlCellSpec)) fnHtmlCellCard

/-- THE SECOND FORM's CARD OF 'laws.FnHtmlCell'. -/
def fnHtmlCellUptoCard : Claim7 := { stood := { row := fnHtmlCellUptoRow, standIns := [], harness := (true, "e7d9a828e9b8930a7391ec57da667c3589aa324d0bef1ca28e6981b242c3374e"), looks := true }, kinds := [], alts := [], laidByText := true, laidKinds := [.data, .listed, .data, .pinned], laidTests := true, laidLooks := .later }
def FnHtmlCellUptoCardSaid : Prop := Claim7.holds Tryz.pinned (.plain (OpenSpec.upto fnHtmlCellSpec)) fnHtmlCellUptoCard
end Rows
end Go.Proofs.YtehlfbhlaoiioaaGreatDoorR
