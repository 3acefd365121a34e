/-
  DERIVED. GIVEN WITH THE SEED: THE CARDS: each row of YtemcjnminnnefaaDoorRows.lean that lists a variable, with what it lists TIED to the program's text (the seventh form; the later family's looks); each row that meets fmt, with fmt's text TOLD by the authors' own Lean function (tested against real Go, not proved from fmt's source: count such statements apart). THE CARD IS WHAT COUNTS. Prove the row's statement (the work); the ties are given (YtemcjnminnnefaaDoorTie.lean); close each card by the builder's one call (the guide's Derived/Test/ToyasCard.lean, 'card_holds'). Laid BY PROGRAM, IN A SANDBOX (cutbox-door.mjs). By AI agents, Wed Nov 11 2026. No macro, syntax, notation, axiom, sorry.
-/
import Derived.Test.YtemcjnminnnefaaDoorRows
import GoSem.ClaimSeven
namespace Go.Proofs.YtemcjnminnnefaaDoor
namespace Rows

/-- THE TIED CARD OF 'laws.FnListReset'. -/
def fnListResetCard : Claim7 := { stood := { row := fnListResetRow, standIns := [], harness := (true, "d59fa6cb6ebe47953723ff3af37e5d287bf852508af41c433a6c5e299c11aa58"), looks := true }, kinds := [], alts := [], laidByText := true, laidKinds := [.data, .listed, .data, .pinned, .pinned, .pinned, .pinned], laidTests := true, laidLooks := .later }
def FnListResetCardSaid : Prop := Claim7.holds Tryd.pinned (.plain (OpenSpec.ofChange fnListResetSpec)) fnListResetCard

/-- THE SECOND FORM's CARD OF 'laws.FnListReset'. -/
def fnListResetUptoCard : Claim7 := { stood := { row := fnListResetUptoRow, standIns := [], harness := (true, "d59fa6cb6ebe47953723ff3af37e5d287bf852508af41c433a6c5e299c11aa58"), looks := true }, kinds := [], alts := [], laidByText := true, laidKinds := [.data, .listed, .data, .pinned, .pinned, .pinned, .pinned], laidTests := true, laidLooks := .later }
def FnListResetUptoCardSaid : Prop := Claim7.holds Tryd.pinned (.plain (OpenSpec.upto fnListResetSpec)) fnListResetUptoCard
end Rows
end Go.Proofs.YtemcjnminnnefaaDoor
