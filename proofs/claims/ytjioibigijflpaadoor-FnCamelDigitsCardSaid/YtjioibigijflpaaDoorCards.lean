/-
  DERIVED. GIVEN WITH THE SEED: THE CARDS: each row of YtjioibigijflpaaDoorRows.lean that lists a variable, with what it lists TIED to the program's text (the seventh form; the later family's looks); each row that meets fmt, with fmt's text TOLD by the authors' own Lean function (tested against real Go, not proved from fmt's source: count such statements apart). THE CARD IS WHAT COUNTS. Prove the row's statement (the work); the ties are given (YtjioibigijflpaaDoorTie.lean); close each card by the builder's one call (the guide's Derived/Test/ToyasCard.lean, 'card_holds'). Laid BY PROGRAM, IN A SANDBOX (cutbox-door.mjs). By AI agents, Wed Nov 11 2026. No macro, syntax, notation, axiom, sorry.
-/
import Derived.Test.YtjioibigijflpaaDoorRows
import GoSem.ClaimSeven
namespace Go.Proofs.YtjioibigijflpaaDoor
namespace Rows

/-- THE TIED CARD OF 'laws.FnMatchPieces'. -/
def fnMatchPiecesCard : Claim7 := { stood := { row := fnMatchPiecesRow, standIns := [], harness := (true, "75febac1a36cd3c583c37a035491064ddc5cce39990542a84759d43bfbf7b6b9"), looks := true }, kinds := [], alts := [], laidByText := true, laidKinds := [.data, .data, .data, .pinned, .pinned], laidTests := true, laidLooks := .later }
def FnMatchPiecesCardSaid : Prop := Claim7.holds Tryd.pinned (.plain (OpenSpec.ofChange fnMatchPiecesSpec)) fnMatchPiecesCard

/-- THE TIED CARD OF 'laws.FnCamelDigits'. -/
def fnCamelDigitsCard : Claim7 := { stood := { row := fnCamelDigitsRow, standIns := [], harness := (true, "75febac1a36cd3c583c37a035491064ddc5cce39990542a84759d43bfbf7b6b9"), looks := true }, kinds := [], alts := [], laidByText := true, laidKinds := [.data, .listed, .data, .data, .pinned, .pinned, .pinned, .pinned], laidTests := true, laidLooks := .later }
def FnCamelDigitsCardSaid : Prop := Claim7.holds Tryd.pinned (.plain (OpenSpec.ofChange fnCamelDigitsSpec)) fnCamelDigitsCard

/-- THE SECOND FORM's CARD OF 'laws.FnMatchPieces'. -/
def fnMatchPiecesUptoCard : Claim7 := { stood := { row := fnMatchPiecesUptoRow, standIns := [], harness := (true, "75febac1a36cd3c583c37a035491064ddc5cce39990542a84759d43bfbf7b6b9"), looks := true }, kinds := [], alts := [], laidByText := true, laidKinds := [.data, .data, .data, .pinned, .pinned], laidTests := true, laidLooks := .later }
def FnMatchPiecesUptoCardSaid : Prop := Claim7.holds Tryd.pinned (.plain (OpenSpec.upto fnMatchPiecesSpec)) fnMatchPiecesUptoCard

/-- THE SECOND FORM's CARD OF 'laws.FnCamelDigits'. -/
def fnCamelDigitsUptoCard : Claim7 := { stood := { row := fnCamelDigitsUptoRow, standIns := [], harness := (true, "75febac1a36cd3c583c37a035491064ddc5cce39990542a84759d43bfbf7b6b9"), looks := true }, kinds := [], alts := [], laidByText := true, laidKinds := [.data, .listed, .data, .data, .pinned, .pinned, .pinned, .pinned], laidTests := true, laidLooks := .later }
def FnCamelDigitsUptoCardSaid : Prop := Claim7.holds Tryd.pinned (.plain (OpenSpec.upto fnCamelDigitsSpec)) fnCamelDigitsUptoCard
end Rows
end Go.Proofs.YtjioibigijflpaaDoor
