/-
  DERIVED. GIVEN WITH THE SEED: THE CARDS: each row of YtnjehpjkanfnnaaDoorRows.lean that lists a variable, with what it lists TIED to the program's text (the seventh form; the later family's looks); each row that meets fmt, with fmt's text TOLD by the authors' own Lean function (tested against real Go, not proved from fmt's source: count such statements apart). THE CARD IS WHAT COUNTS. Prove the row's statement (the work); the ties are given (YtnjehpjkanfnnaaDoorTie.lean); close each card by the builder's one call (the guide's Derived/Test/ToyasCard.lean, 'card_holds'). Laid BY PROGRAM, IN A SANDBOX (cutbox-door.mjs). By AI agents, Wed Nov 11 2026. No macro, syntax, notation, axiom, sorry.
-/
import Derived.Test.YtnjehpjkanfnnaaDoorRows
import GoSem.ClaimSeven
namespace Go.Proofs.YtnjehpjkanfnnaaDoor
namespace Rows

/-- THE TIED CARD OF 'laws.FnTextFormatTitle'. -/
def fnTextFormatTitleCard : Claim7 := { stood := { row := fnTextFormatTitleRow, standIns := [], harness := (true, "631713bdcea18bc20f091aca23c80e32da5f0cc14ffd62f42f16742be8e3c615"), looks := false }, kinds := [], alts := [], laidByText := true, laidKinds := [.data, .listed, .data, .pinned, .pinned, .pinned, .pinned], laidTests := true, laidLooks := .later }
def FnTextFormatTitleCardSaid : Prop := Claim7.holds Tryd.pinned (.plain (OpenSpec.ofChange fnTextFormatTitleSpec)) fnTextFormatTitleCard

/-- THE SECOND FORM's CARD OF 'laws.FnTextFormatTitle'. -/
def fnTextFormatTitleUptoCard : Claim7 := { stood := { row := fnTextFormatTitleUptoRow, standIns := [], harness := (true, "631713bdcea18bc20f091aca23c80e32da5f0cc14ffd62f42f16742be8e3c615"), looks := false }, kinds := [], alts := [], laidByText := true, laidKinds := [.data, .listed, .data, .pinned, .pinned, .pinned, .pinned], laidTests := true, laidLooks := .later }
def FnTextFormatTitleUptoCardSaid : Prop := Claim7.holds Tryd.pinned (.plain (OpenSpec.upto fnTextFormatTitleSpec)) fnTextFormatTitleUptoCard
end Rows
end Go.Proofs.YtnjehpjkanfnnaaDoor
