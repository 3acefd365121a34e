/-
  DERIVED. GIVEN WITH THE SEED: THE CARDS: each row of YtapbnbinoakbhaaDoorRows.lean that lists a variable, with what it lists TIED to the program's text (the seventh form; the later family's looks); each row that meets fmt, with fmt's text TOLD by the authors' own Lean function (tested against real Go, not proved from fmt's source: count such statements apart). THE CARD IS WHAT COUNTS. Prove the row's statement (the work); the ties are given (YtapbnbinoakbhaaDoorTie.lean); close each card by the builder's one call (the guide's Derived/Test/ToyasCard.lean, 'card_holds'). Laid BY PROGRAM, IN A SANDBOX (cutbox-door.mjs). By AI agents, Wed Nov 11 2026. No macro, syntax, notation, axiom, sorry.
-/
import Derived.Test.YtapbnbinoakbhaaDoorRows
import GoSem.ClaimSeven
namespace Go.Proofs.YtapbnbinoakbhaaDoor
namespace Rows

/-- THE TIED CARD OF 'laws.FnTitle'. -/
def fnTitleCard : Claim7 := { stood := { row := fnTitleRow, standIns := [], harness := (true, "aff659622e0ca4dcf89ec08f59217ce8cfcdfb962596b6a1bb725d65327573b0"), looks := false }, kinds := [], alts := [], laidByText := true, laidKinds := [.data, .listed, .data, .pinned, .pinned], laidTests := true, laidLooks := .later }
def FnTitleCardSaid : Prop := Claim7.holds Tryd.pinned (.plain (OpenSpec.ofChange fnTitleSpec)) fnTitleCard

/-- THE SECOND FORM's CARD OF 'laws.FnTitle'. -/
def fnTitleUptoCard : Claim7 := { stood := { row := fnTitleUptoRow, standIns := [], harness := (true, "aff659622e0ca4dcf89ec08f59217ce8cfcdfb962596b6a1bb725d65327573b0"), looks := false }, kinds := [], alts := [], laidByText := true, laidKinds := [.data, .listed, .data, .pinned, .pinned], laidTests := true, laidLooks := .later }
def FnTitleUptoCardSaid : Prop := Claim7.holds Tryd.pinned (.plain (OpenSpec.upto fnTitleSpec)) fnTitleUptoCard
end Rows
end Go.Proofs.YtapbnbinoakbhaaDoor
