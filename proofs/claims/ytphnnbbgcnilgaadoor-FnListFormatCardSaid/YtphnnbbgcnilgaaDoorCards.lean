/-
  DERIVED. GIVEN WITH THE SEED: THE CARDS: each row of YtphnnbbgcnilgaaDoorRows.lean that lists a variable, with what it lists TIED to the program's text (the seventh form; the later family's looks); each row that meets fmt, with fmt's text TOLD by the authors' own Lean function (tested against real Go, not proved from fmt's source: count such statements apart). THE CARD IS WHAT COUNTS. Prove the row's statement (the work); the ties are given (YtphnnbbgcnilgaaDoorTie.lean); close each card by the builder's one call (the guide's Derived/Test/ToyasCard.lean, 'card_holds'). Laid BY PROGRAM, IN A SANDBOX (cutbox-door.mjs). By AI agents, Wed Nov 11 2026. No macro, syntax, notation, axiom, sorry.
-/
import Derived.Test.YtphnnbbgcnilgaaDoorRows
import GoSem.ClaimSeven
namespace Go.Proofs.YtphnnbbgcnilgaaDoor
namespace Rows

/-- THE TIED CARD OF 'laws.FnListBack'. -/
def fnListBackCard : Claim7 := { stood := { row := fnListBackRow, standIns := [], harness := (true, "4b04643d208ade065a59d80024dc22eaac6102ac604dbdad89fd488deef7cead"), looks := true }, kinds := [], alts := [], laidByText := true, laidKinds := [.data, .listed, .data, .pinned, .pinned, .pinned, .pinned], laidTests := true, laidLooks := .later }
def FnListBackCardSaid : Prop := Claim7.holds Tryd.pinned (.plain (OpenSpec.ofChange fnListBackSpec)) fnListBackCard

/-- THE TIED CARD OF 'laws.FnListFormat'. -/
def fnListFormatCard : Claim7 := { stood := { row := fnListFormatRow, standIns := [], harness := (true, "4b04643d208ade065a59d80024dc22eaac6102ac604dbdad89fd488deef7cead"), looks := true }, kinds := [], alts := [], laidByText := true, laidKinds := [.data, .listed, .data, .pinned, .pinned, .pinned, .pinned], laidTests := true, laidLooks := .later }
def FnListFormatCardSaid : Prop := Claim7.holds Tryd.pinned (.plain (OpenSpec.ofChange fnListFormatSpec)) fnListFormatCard

/-- THE SECOND FORM's CARD OF 'laws.FnListBack'. -/
def fnListBackUptoCard : Claim7 := { stood := { row := fnListBackUptoRow, standIns := [], harness := (true, "4b04643d208ade065a59d80024dc22eaac6102ac604dbdad89fd488deef7cead"), looks := true }, kinds := [], alts := [], laidByText := true, laidKinds := [.data, .listed, .data, .pinned, .pinned, .pinned, .pinned], laidTests := true, laidLooks := .later }
def FnListBackUptoCardSaid : Prop := Claim7.holds Tryd.pinned (.plain (OpenSpec.upto fnListBackSpec)) fnListBackUptoCard

/-- THE SECOND FORM's CARD OF 'laws.FnListFormat'. -/
def fnListFormatUptoCard : Claim7 := { stood := { row := fnListFormatUptoRow, standIns := [], harness := (true, "4b04643d208ade065a59d80024dc22eaac6102ac604dbdad89fd488deef7cead"), looks := true }, kinds := [], alts := [], laidByText := true, laidKinds := [.data, .listed, .data, .pinned, .pinned, .pinned, .pinned], laidTests := true, laidLooks := .later }
def FnListFormatUptoCardSaid : Prop := Claim7.holds Tryd.pinned (.plain (OpenSpec.upto fnListFormatSpec)) fnListFormatUptoCard
end Rows
end Go.Proofs.YtphnnbbgcnilgaaDoor
