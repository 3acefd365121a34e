/-
  No cell of these rows narrows 'for every input' (looked for: loops, veiled, ifaces, maps, wideKeys, modest, calm, conditions, laid).
  DERIVED. THE GIVEN ROWS OF THIS SEAT. 5 by the template 'for every input the law returns true; each argument reads behind the call as it read before'; 0 by the template 'total and deterministic' (their statements: YtkfkhafmgndgaaaRRTotals.lean).
  GIVEN WITH THE SEED: the statements are not yours to turn. If you find one false, say at which input.
  Laid BY PROGRAM, IN A SANDBOX (cutbox-rows.mjs): the forced cells as the released guide's own fill.sh prints them over the translation b5261cb8415cd0ed… (all of the seat's roots in one cut). By AI agents, Wed Nov 11 2026. No macro, syntax, notation, axiom, sorry.
-/
import Derived.Test.YtkfkhafmgndgaaaRRChecked
import GoSem.Claim
import GoSem.ClaimJoined
import GoSem.ClaimMapViews
import Derived.JoinedTies
import Derived.KernelRfl
namespace Go.Proofs.YtkfkhafmgndgaaaRR
/- THE CELL 'sum', in the pinned program and in every row, IS THE sha256 OF THE DUMP (.gsa) THAT YtkfkhafmgndgaaaRRProg.lean LOADS. Nothing in Lean hashes anything: it is a label: what it is worth is what the hold of that sum in a sandbox is worth. -/
noncomputable def Try.pinned : Pinned := { name := "ytkfkhafmgndgaaarr", sum := "b5261cb8415cd0ed908808cad20285adca735e159cb06d6dadb964cadf8dcc42", checked := Try.checked }
namespace Rows
def none {H : Type} : Left H := { results := [], args := [] }

/-- 'laws.FnCacheLatest': WHATEVER THE INPUT: true; the input reads as it did. -/
def fnCacheLatestSpec : ChangeSpec := { name := "fnCacheLatest", fn := fun _ => fun
  | [d1, d2] => { results := [.lit (.bool true)], args := [d1, d2] }
  | _ => none }
def fnCacheLatestRow : OpenClaim := { program := "ytkfkhafmgndgaaarr", sum := "b5261cb8415cd0ed908808cad20285adca735e159cb06d6dadb964cadf8dcc42", func := "pub-pinstripe/laws.FnCacheLatest", spec := "fnCacheLatest", unfollowed := true, recurses := true, apart := false }
def FnCacheLatestSaid : Prop := fnCacheLatestRow.holds Try.pinned (OpenSpec.ofChange fnCacheLatestSpec)

/-- ITS FALSE NEIGHBOUR: 'it returns false'. Refute it at one input. -/
def fnCacheLatestWrong : ChangeSpec := { name := "fnCacheLatest", fn := fun _ => fun
  | [d1, d2] => { results := [.lit (.bool false)], args := [d1, d2] }
  | _ => none }
def FnCacheLatestWrongFalsely : Prop := fnCacheLatestRow.holds Try.pinned (OpenSpec.ofChange fnCacheLatestWrong)

/-- 'laws.FnCachePurge': WHATEVER THE INPUT: true; the input reads as it did. -/
def fnCachePurgeSpec : ChangeSpec := { name := "fnCachePurge", fn := fun _ => fun
  | [d1, d2, d3] => { results := [.lit (.bool true)], args := [d1, d2, d3] }
  | _ => none }
def fnCachePurgeRow : OpenClaim := { program := "ytkfkhafmgndgaaarr", sum := "b5261cb8415cd0ed908808cad20285adca735e159cb06d6dadb964cadf8dcc42", func := "pub-pinstripe/laws.FnCachePurge", spec := "fnCachePurge", unfollowed := true, recurses := true, apart := false }
def FnCachePurgeSaid : Prop := fnCachePurgeRow.holds Try.pinned (OpenSpec.ofChange fnCachePurgeSpec)

/-- ITS FALSE NEIGHBOUR: 'it returns false'. Refute it at one input. -/
def fnCachePurgeWrong : ChangeSpec := { name := "fnCachePurge", fn := fun _ => fun
  | [d1, d2, d3] => { results := [.lit (.bool false)], args := [d1, d2, d3] }
  | _ => none }
def FnCachePurgeWrongFalsely : Prop := fnCachePurgeRow.holds Try.pinned (OpenSpec.ofChange fnCachePurgeWrong)

/-- 'laws.FnMoves': WHATEVER THE INPUT: true; the input reads as it did. -/
def fnMovesSpec : ChangeSpec := { name := "fnMoves", fn := fun _ => fun
  | [d1, d2] => { results := [.lit (.bool true)], args := [d1, d2] }
  | _ => none }
def fnMovesRow : OpenClaim := { program := "ytkfkhafmgndgaaarr", sum := "b5261cb8415cd0ed908808cad20285adca735e159cb06d6dadb964cadf8dcc42", func := "pub-pinstripe/laws.FnMoves", spec := "fnMoves", unfollowed := true, recurses := true, apart := false }
def FnMovesSaid : Prop := fnMovesRow.holds Try.pinned (OpenSpec.ofChange fnMovesSpec)

/-- ITS FALSE NEIGHBOUR: 'it returns false'. Refute it at one input. -/
def fnMovesWrong : ChangeSpec := { name := "fnMoves", fn := fun _ => fun
  | [d1, d2] => { results := [.lit (.bool false)], args := [d1, d2] }
  | _ => none }
def FnMovesWrongFalsely : Prop := fnMovesRow.holds Try.pinned (OpenSpec.ofChange fnMovesWrong)

/-- 'laws.FnMovesEnds': WHATEVER THE INPUT: true; the input reads as it did. -/
def fnMovesEndsSpec : ChangeSpec := { name := "fnMovesEnds", fn := fun _ => fun
  | [d1, d2] => { results := [.lit (.bool true)], args := [d1, d2] }
  | _ => none }
def fnMovesEndsRow : OpenClaim := { program := "ytkfkhafmgndgaaarr", sum := "b5261cb8415cd0ed908808cad20285adca735e159cb06d6dadb964cadf8dcc42", func := "pub-pinstripe/laws.FnMovesEnds", spec := "fnMovesEnds", unfollowed := true, recurses := true, apart := false }
def FnMovesEndsSaid : Prop := fnMovesEndsRow.holds Try.pinned (OpenSpec.ofChange fnMovesEndsSpec)

/-- ITS FALSE NEIGHBOUR: 'it returns false'. Refute it at one input. -/
def fnMovesEndsWrong : ChangeSpec := { name := "fnMovesEnds", fn := fun _ => fun
  | [d1, d2] => { results := [.lit (.bool false)], args := [d1, d2] }
  | _ => none }
def FnMovesEndsWrongFalsely : Prop := fnMovesEndsRow.holds Try.pinned (OpenSpec.ofChange fnMovesEndsWrong)

/-- 'laws.FnUnitsPrint': WHATEVER THE INPUT: true; the input reads as it did. -/
def fnUnitsPrintSpec : ChangeSpec := { name := "fnUnitsPrint", fn := fun _ => fun
  | [d1, d2, d3, d4] => { results := [.lit (.bool true)], args := [d1, d2, d3, d4] }
  | _ => none }
def fnUnitsPrintRow : OpenClaim := { program := "ytkfkhafmgndgaaarr", sum := "b5261cb8415cd0ed908808cad20285adca735e159cb06d6dadb964cadf8dcc42", func := "pub-pinstripe/laws.FnUnitsPrint", spec := "fnUnitsPrint", inPlace := ["math.Float32bits", "math.Float64bits"], unfollowed := true, recurses := true, apart := false }
def FnUnitsPrintSaid : Prop := fnUnitsPrintRow.holds Try.pinned (OpenSpec.ofChange fnUnitsPrintSpec)

/-- ITS FALSE NEIGHBOUR: 'it returns false'. Refute it at one input. -/
def fnUnitsPrintWrong : ChangeSpec := { name := "fnUnitsPrint", fn := fun _ => fun
  | [d1, d2, d3, d4] => { results := [.lit (.bool false)], args := [d1, d2, d3, d4] }
  | _ => none }
def FnUnitsPrintWrongFalsely : Prop := fnUnitsPrintRow.holds Try.pinned (OpenSpec.ofChange fnUnitsPrintWrong)

/- THE SECOND FORM. 'bulk': how many values and letters a reading holds, each counted each time it is reached (what is shared counts as often as it is met; a slice's spare places count too). A statement '..UptoSaid' is the law's where the arguments, and the package variables that the reading takes, are together of bulk at most 1048576: NARROWER than '..Said'. Prove '..Said' where nothing that the law and all that it calls make is longer than what came in: it says more and counts as full. Else prove '..UptoSaid'. A law counts once. -/
mutual
def uptoBulk {H : Type} : DataW H → Nat
  | .lit (.string bytes) => bytes.length + 1
  | .lit _ => 1
  | .nil => 1
  | .ptr d => uptoBulk d + 1
  | .slice elems spare => uptoBulkAll elems + uptoBulkAll spare + 1
  | .agg parts => uptoBulkAll parts + 1
  | .iface _ d => uptoBulk d + 1
  | .map entries => uptoBulkEntries entries + 1
  | .held _ => 1
def uptoBulkAll {H : Type} : List (DataW H) → Nat
  | [] => 0
  | d :: r => uptoBulk d + uptoBulkAll r
def uptoBulkEntries {H : Type} : List (Lit × DataW H) → Nat
  | [] => 0
  | x :: r => uptoBulkEntry x + uptoBulkEntries r
def uptoBulkEntry {H : Type} : Lit × DataW H → Nat
  | (.string bytes, d) => bytes.length + uptoBulk d + 1
  | (_, d) => uptoBulk d + 1
 end
def uptoSmall : (H : Type) → List (DataW H) → Bool := fun _ ds => decide (uptoBulkAll ds ≤ 1048576)
def OpenSpec.upto (s : _root_.Go.ChangeSpec) : _root_.Go.OpenSpec := { _root_.Go.OpenSpec.ofChange s with cond := some uptoSmall }

/-- 'laws.FnCacheLatest', WHERE WHAT IT READS IS OF BULK AT MOST 1048576: true; the input reads as it did. -/
def fnCacheLatestUptoRow : OpenClaim := { program := "ytkfkhafmgndgaaarr", sum := "b5261cb8415cd0ed908808cad20285adca735e159cb06d6dadb964cadf8dcc42", func := "pub-pinstripe/laws.FnCacheLatest", spec := "fnCacheLatest", unfollowed := true, recurses := true, apart := false, narrowed := true }
def FnCacheLatestUptoSaid : Prop := fnCacheLatestUptoRow.holds Try.pinned (OpenSpec.upto fnCacheLatestSpec)

/-- 'laws.FnCachePurge', WHERE WHAT IT READS IS OF BULK AT MOST 1048576: true; the input reads as it did. -/
def fnCachePurgeUptoRow : OpenClaim := { program := "ytkfkhafmgndgaaarr", sum := "b5261cb8415cd0ed908808cad20285adca735e159cb06d6dadb964cadf8dcc42", func := "pub-pinstripe/laws.FnCachePurge", spec := "fnCachePurge", unfollowed := true, recurses := true, apart := false, narrowed := true }
def FnCachePurgeUptoSaid : Prop := fnCachePurgeUptoRow.holds Try.pinned (OpenSpec.upto fnCachePurgeSpec)

/-- 'laws.FnMoves', WHERE WHAT IT READS IS OF BULK AT MOST 1048576: true; the input reads as it did. -/
def fnMovesUptoRow : OpenClaim := { program := "ytkfkhafmgndgaaarr", sum := "b5261cb8415cd0ed908808cad20285adca735e159cb06d6dadb964cadf8dcc42", func := "pub-pinstripe/laws.FnMoves", spec := "fnMoves", unfollowed := true, recurses := true, apart := false, narrowed := true }
def FnMovesUptoSaid : Prop := fnMovesUptoRow.holds Try.pinned (OpenSpec.upto fnMovesSpec)

/-- 'laws.FnMovesEnds', WHERE WHAT IT READS IS OF BULK AT MOST 1048576: true; the input reads as it did. -/
def fnMovesEndsUptoRow : OpenClaim := { program := "ytkfkhafmgndgaaarr", sum := "b5261cb8415cd0ed908808cad20285adca735e159cb06d6dadb964cadf8dcc42", func := "pub-pinstripe/laws.FnMovesEnds", spec := "fnMovesEnds", unfollowed := true, recurses := true, apart := false, narrowed := true }
def FnMovesEndsUptoSaid : Prop := fnMovesEndsUptoRow.holds Try.pinned (OpenSpec.upto fnMovesEndsSpec)

/-- 'laws.FnUnitsPrint', WHERE WHAT IT READS IS OF BULK AT MOST 1048576: true; the input reads as it did. -/
def fnUnitsPrintUptoRow : OpenClaim := { program := "ytkfkhafmgndgaaarr", sum := "b5261cb8415cd0ed908808cad20285adca735e159cb06d6dadb964cadf8dcc42", func := "pub-pinstripe/laws.FnUnitsPrint", spec := "fnUnitsPrint", inPlace := ["math.Float32bits", "math.Float64bits"], unfollowed := true, recurses := true, apart := false, narrowed := true }
def FnUnitsPrintUptoSaid : Prop := fnUnitsPrintUptoRow.holds Try.pinned (OpenSpec.upto fnUnitsPrintSpec)

end Rows
end Go.Proofs.YtkfkhafmgndgaaaRR
