/-
  DERIVED. GIVEN WITH THE SEED: THE CARDS: each row of YtkfkhafmgndgaaaRRDoorRows.lean that lists a variable, with what it lists TIED to the program's text (the seventh form; the later family's looks); each row that meets fmt, with fmt's text TOLD by the authors' own Lean function (tested against real Go, not proved from fmt's source: count such statements apart). THE CARD IS WHAT COUNTS. Prove the row's statement (the work); the ties are given (YtkfkhafmgndgaaaRRDoorTie.lean); close each card by the builder's one call (the guide's Derived/Test/ToyasCard.lean, 'card_holds'). Laid BY PROGRAM, IN A SANDBOX (cutbox-door.mjs). By AI agents, Wed Nov 11 2026. No macro, syntax, notation, axiom, sorry.
-/
import Derived.Test.YtkfkhafmgndgaaaRRDoorRows
import GoSem.ClaimSeven
namespace Go.Proofs.YtkfkhafmgndgaaaRRDoor
namespace Rows

/-- THE TIED CARD OF 'laws.FnTextColor256'. -/
def fnTextColor256Card : Claim7 := { stood := { row := fnTextColor256Row, standIns := [], harness := (true, "4e532eef2af5d5791a83711410c5b041ea2760cfe624075ff2883b61ffaae3cc"), looks := false }, kinds := [], alts := [], laidByText := true, laidKinds := [.data, .data, .data], laidTests := true, laidLooks := .later }
def FnTextColor256CardSaid : Prop := Claim7.holds Tryd.pinned (.plain (OpenSpec.ofChange fnTextColor256Spec)) fnTextColor256Card

/-- THE TIED CARD OF 'laws.FnTextColorEscape'. -/
def fnTextColorEscapeCard : Claim7 := { stood := { row := fnTextColorEscapeRow, standIns := [], harness := (true, "4e532eef2af5d5791a83711410c5b041ea2760cfe624075ff2883b61ffaae3cc"), looks := false }, kinds := [], alts := [], laidByText := true, laidKinds := [.data, .data, .data], laidTests := true, laidLooks := .later }
def FnTextColorEscapeCardSaid : Prop := Claim7.holds Tryd.pinned (.plain (OpenSpec.ofChange fnTextColorEscapeSpec)) fnTextColorEscapeCard

/-- THE TIED CARD OF 'laws.FnTextEscapeStrip'. -/
def fnTextEscapeStripCard : Claim7 := { stood := { row := fnTextEscapeStripRow, standIns := [], harness := (true, "4e532eef2af5d5791a83711410c5b041ea2760cfe624075ff2883b61ffaae3cc"), looks := false }, kinds := [], alts := [], laidByText := true, laidKinds := [.data, .data, .data], laidTests := true, laidLooks := .later }
def FnTextEscapeStripCardSaid : Prop := Claim7.holds Tryd.pinned (.plain (OpenSpec.ofChange fnTextEscapeStripSpec)) fnTextEscapeStripCard

/-- THE TIED CARD OF 'laws.FnTextStrip'. -/
def fnTextStripCard : Claim7 := { stood := { row := fnTextStripRow, standIns := [], harness := (true, "4e532eef2af5d5791a83711410c5b041ea2760cfe624075ff2883b61ffaae3cc"), looks := false }, kinds := [], alts := [], laidByText := true, laidKinds := [.data, .data, .data], laidTests := true, laidLooks := .later }
def FnTextStripCardSaid : Prop := Claim7.holds Tryd.pinned (.plain (OpenSpec.ofChange fnTextStripSpec)) fnTextStripCard

/-- THE TIED CARD OF 'laws.FnCamelDigits'. -/
def fnCamelDigitsCard : Claim7 := { stood := { row := fnCamelDigitsRow, standIns := [], harness := (true, "4e532eef2af5d5791a83711410c5b041ea2760cfe624075ff2883b61ffaae3cc"), looks := false }, kinds := [], alts := [], laidByText := true, laidKinds := [.data, .listed, .data, .data, .pinned, .pinned, .pinned, .pinned], laidTests := true, laidLooks := .later }
def FnCamelDigitsCardSaid : Prop := Claim7.holds Tryd.pinned (.plain (OpenSpec.ofChange fnCamelDigitsSpec)) fnCamelDigitsCard

/-- THE SECOND FORM's CARD OF 'laws.FnTextColor256'. -/
def fnTextColor256UptoCard : Claim7 := { stood := { row := fnTextColor256UptoRow, standIns := [], harness := (true, "4e532eef2af5d5791a83711410c5b041ea2760cfe624075ff2883b61ffaae3cc"), looks := false }, kinds := [], alts := [], laidByText := true, laidKinds := [.data, .data, .data], laidTests := true, laidLooks := .later }
def FnTextColor256UptoCardSaid : Prop := Claim7.holds Tryd.pinned (.plain (OpenSpec.upto fnTextColor256Spec)) fnTextColor256UptoCard

/-- THE SECOND FORM's CARD OF 'laws.FnTextColorEscape'. -/
def fnTextColorEscapeUptoCard : Claim7 := { stood := { row := fnTextColorEscapeUptoRow, standIns := [], harness := (true, "4e532eef2af5d5791a83711410c5b041ea2760cfe624075ff2883b61ffaae3cc"), looks := false }, kinds := [], alts := [], laidByText := true, laidKinds := [.data, .data, .data], laidTests := true, laidLooks := .later }
def FnTextColorEscapeUptoCardSaid : Prop := Claim7.holds Tryd.pinned (.plain (OpenSpec.upto fnTextColorEscapeSpec)) fnTextColorEscapeUptoCard

/-- THE SECOND FORM's CARD OF 'laws.FnTextEscapeStrip'. -/
def fnTextEscapeStripUptoCard : Claim7 := { stood := { row := fnTextEscapeStripUptoRow, standIns := [], harness := (true, "4e532eef2af5d5791a83711410c5b041ea2760cfe624075ff2883b61ffaae3cc"), looks := false }, kinds := [], alts := [], laidByText := true, laidKinds := [.data, .data, .data], laidTests := true, laidLooks := .later }
def FnTextEscapeStripUptoCardSaid : Prop := Claim7.holds Tryd.pinned (.plain (OpenSpec.upto fnTextEscapeStripSpec)) fnTextEscapeStripUptoCard

/-- THE SECOND FORM's CARD OF 'laws.FnTextStrip'. -/
def fnTextStripUptoCard : Claim7 := { stood := { row := fnTextStripUptoRow, standIns := [], harness := (true, "4e532eef2af5d5791a83711410c5b041ea2760cfe624075ff2883b61ffaae3cc"), looks := false }, kinds := [], alts := [], laidByText := true, laidKinds := [.data, .data, .data], laidTests := true, laidLooks := .later }
def FnTextStripUptoCardSaid : Prop := Claim7.holds Tryd.pinned (.plain (OpenSpec.upto fnTextStripSpec)) fnTextStripUptoCard

/-- THE SECOND FORM's CARD OF 'laws.FnCamelDigits'. -/
def fnCamelDigitsUptoCard : Claim7 := { stood := { row := fnCamelDigitsUptoRow, standIns := [], harness := (true, "4e532eef2af5d5791a83711410c5b041ea2760cfe624075ff2883b61ffaae3cc"), looks := false }, kinds := [], alts := [], laidByText := true, laidKinds := [.data, .listed, .data, .data, .pinned, .pinned, .pinned, .pinned], laidTests := true, laidLooks := .later }
def FnCamelDigitsUptoCardSaid : Prop := Claim7.holds Tryd.pinned (.plain (OpenSpec.upto fnCamelDigitsSpec)) fnCamelDigitsUptoCard
end Rows
end Go.Proofs.YtkfkhafmgndgaaaRRDoor
