/-
  No cell of these rows narrows 'for every input' (looked for: loops, veiled, ifaces, maps, wideKeys, modest, calm, conditions, laid).
  DERIVED. THE GIVEN ROWS OF THIS SEAT. 12 by the template 'for every input the law returns true; each argument reads behind the call as it read before'; 0 by the template 'total and deterministic' (their statements: YtjoagjkmghmnnaaTotals.lean).
  GIVEN WITH THE SEED: the statements are not yours to turn. If you find one false, say at which input.
  Laid BY PROGRAM, IN A SANDBOX (cutbox-rows.mjs): the forced cells as the released guide's own fill.sh prints them over the translation fc904b1eb85bf521… (all of the seat's roots in one cut). By AI agents, Wed Nov 11 2026. No macro, syntax, notation, axiom, sorry.
-/
import Derived.Test.YtjoagjkmghmnnaaChecked
import GoSem.Claim
import GoSem.ClaimJoined
import GoSem.ClaimMapViews
import Derived.JoinedTies
import Derived.KernelRfl
namespace Go.Proofs.Ytjoagjkmghmnnaa
/- THE CELL 'sum', in the pinned program and in every row, IS THE sha256 OF THE DUMP (.gsa) THAT YtjoagjkmghmnnaaProg.lean LOADS. Nothing in Lean hashes anything: it is a label: what it is worth is what the hold of that sum in a sandbox is worth. -/
noncomputable def Try.pinned : Pinned := { name := "ytjoagjkmghmnnaa", sum := "fc904b1eb85bf5218c121c2b8a1da78c6be9a2621c171ceb1225d47d5d62eb90", checked := Try.checked }
namespace Rows
def none {H : Type} : Left H := { results := [], args := [] }

/-- 'laws.FnColumnID': WHATEVER THE INPUT: true; the input reads as it did. -/
def fnColumnIDSpec : ChangeSpec := { name := "fnColumnID", fn := fun _ => fun
  | [d] => { results := [.lit (.bool true)], args := [d] }
  | _ => none }
def fnColumnIDRow : OpenClaim := { program := "ytjoagjkmghmnnaa", sum := "fc904b1eb85bf5218c121c2b8a1da78c6be9a2621c171ceb1225d47d5d62eb90", func := "pub-pinstripe/laws.FnColumnID", spec := "fnColumnID", recurses := true, apart := false }
def FnColumnIDSaid : Prop := fnColumnIDRow.holds Try.pinned (OpenSpec.ofChange fnColumnIDSpec)

/-- ITS FALSE NEIGHBOUR: 'it returns false'. Refute it at one input. -/
def fnColumnIDWrong : ChangeSpec := { name := "fnColumnID", fn := fun _ => fun
  | [d] => { results := [.lit (.bool false)], args := [d] }
  | _ => none }
def FnColumnIDWrongFalsely : Prop := fnColumnIDRow.holds Try.pinned (OpenSpec.ofChange fnColumnIDWrong)

/-- 'laws.FnStateText': WHATEVER THE INPUT: true; the input reads as it did. -/
def fnStateTextSpec : ChangeSpec := { name := "fnStateText", fn := fun _ => fun
  | [d] => { results := [.lit (.bool true)], args := [d] }
  | _ => none }
def fnStateTextRow : OpenClaim := { program := "ytjoagjkmghmnnaa", sum := "fc904b1eb85bf5218c121c2b8a1da78c6be9a2621c171ceb1225d47d5d62eb90", func := "pub-pinstripe/laws.FnStateText", spec := "fnStateText", unfollowed := true, recurses := true, apart := false }
def FnStateTextSaid : Prop := fnStateTextRow.holds Try.pinned (OpenSpec.ofChange fnStateTextSpec)

/-- ITS FALSE NEIGHBOUR: 'it returns false'. Refute it at one input. -/
def fnStateTextWrong : ChangeSpec := { name := "fnStateText", fn := fun _ => fun
  | [d] => { results := [.lit (.bool false)], args := [d] }
  | _ => none }
def FnStateTextWrongFalsely : Prop := fnStateTextRow.holds Try.pinned (OpenSpec.ofChange fnStateTextWrong)

/-- 'laws.FnState': WHATEVER THE INPUT: true; the input reads as it did. -/
def fnStateSpec : ChangeSpec := { name := "fnState", fn := fun _ => fun
  | [d1, d2] => { results := [.lit (.bool true)], args := [d1, d2] }
  | _ => none }
def fnStateRow : OpenClaim := { program := "ytjoagjkmghmnnaa", sum := "fc904b1eb85bf5218c121c2b8a1da78c6be9a2621c171ceb1225d47d5d62eb90", func := "pub-pinstripe/laws.FnState", spec := "fnState", unfollowed := true, recurses := true, apart := false }
def FnStateSaid : Prop := fnStateRow.holds Try.pinned (OpenSpec.ofChange fnStateSpec)

/-- ITS FALSE NEIGHBOUR: 'it returns false'. Refute it at one input. -/
def fnStateWrong : ChangeSpec := { name := "fnState", fn := fun _ => fun
  | [d1, d2] => { results := [.lit (.bool false)], args := [d1, d2] }
  | _ => none }
def FnStateWrongFalsely : Prop := fnStateRow.holds Try.pinned (OpenSpec.ofChange fnStateWrong)

/-- 'laws.FnMergedRuns': WHATEVER THE INPUT: true; the input reads as it did. -/
def fnMergedRunsSpec : ChangeSpec := { name := "fnMergedRuns", fn := fun _ => fun
  | [d1, d2] => { results := [.lit (.bool true)], args := [d1, d2] }
  | _ => none }
def fnMergedRunsRow : OpenClaim := { program := "ytjoagjkmghmnnaa", sum := "fc904b1eb85bf5218c121c2b8a1da78c6be9a2621c171ceb1225d47d5d62eb90", func := "pub-pinstripe/laws.FnMergedRuns", spec := "fnMergedRuns", apart := false }
def FnMergedRunsSaid : Prop := fnMergedRunsRow.holds Try.pinned (OpenSpec.ofChange fnMergedRunsSpec)

/-- ITS FALSE NEIGHBOUR: 'it returns false'. Refute it at one input. -/
def fnMergedRunsWrong : ChangeSpec := { name := "fnMergedRuns", fn := fun _ => fun
  | [d1, d2] => { results := [.lit (.bool false)], args := [d1, d2] }
  | _ => none }
def FnMergedRunsWrongFalsely : Prop := fnMergedRunsRow.holds Try.pinned (OpenSpec.ofChange fnMergedRunsWrong)

/-- 'laws.FnGrownEven': WHATEVER THE INPUT: true; the input reads as it did. -/
def fnGrownEvenSpec : ChangeSpec := { name := "fnGrownEven", fn := fun _ => fun
  | [d1, d2, d3] => { results := [.lit (.bool true)], args := [d1, d2, d3] }
  | _ => none }
def fnGrownEvenRow : OpenClaim := { program := "ytjoagjkmghmnnaa", sum := "fc904b1eb85bf5218c121c2b8a1da78c6be9a2621c171ceb1225d47d5d62eb90", func := "pub-pinstripe/laws.FnGrownEven", spec := "fnGrownEven", apart := false }
def FnGrownEvenSaid : Prop := fnGrownEvenRow.holds Try.pinned (OpenSpec.ofChange fnGrownEvenSpec)

/-- ITS FALSE NEIGHBOUR: 'it returns false'. Refute it at one input. -/
def fnGrownEvenWrong : ChangeSpec := { name := "fnGrownEven", fn := fun _ => fun
  | [d1, d2, d3] => { results := [.lit (.bool false)], args := [d1, d2, d3] }
  | _ => none }
def FnGrownEvenWrongFalsely : Prop := fnGrownEvenRow.holds Try.pinned (OpenSpec.ofChange fnGrownEvenWrong)

/-- 'laws.FnHiddenOf': WHATEVER THE INPUT: true; the input reads as it did. -/
def fnHiddenOfSpec : ChangeSpec := { name := "fnHiddenOf", fn := fun _ => fun
  | [d1, d2] => { results := [.lit (.bool true)], args := [d1, d2] }
  | _ => none }
def fnHiddenOfRow : OpenClaim := { program := "ytjoagjkmghmnnaa", sum := "fc904b1eb85bf5218c121c2b8a1da78c6be9a2621c171ceb1225d47d5d62eb90", func := "pub-pinstripe/laws.FnHiddenOf", spec := "fnHiddenOf", unfollowed := true, recurses := true, apart := false }
def FnHiddenOfSaid : Prop := fnHiddenOfRow.holds Try.pinned (OpenSpec.ofChange fnHiddenOfSpec)

/-- ITS FALSE NEIGHBOUR: 'it returns false'. Refute it at one input. -/
def fnHiddenOfWrong : ChangeSpec := { name := "fnHiddenOf", fn := fun _ => fun
  | [d1, d2] => { results := [.lit (.bool false)], args := [d1, d2] }
  | _ => none }
def FnHiddenOfWrongFalsely : Prop := fnHiddenOfRow.holds Try.pinned (OpenSpec.ofChange fnHiddenOfWrong)

/-- 'laws.FnSymbolsCustom': WHATEVER THE INPUT: true; the input reads as it did. -/
def fnSymbolsCustomSpec : ChangeSpec := { name := "fnSymbolsCustom", fn := fun _ => fun
  | [d1, d2, d3] => { results := [.lit (.bool true)], args := [d1, d2, d3] }
  | _ => none }
def fnSymbolsCustomRow : OpenClaim := { program := "ytjoagjkmghmnnaa", sum := "fc904b1eb85bf5218c121c2b8a1da78c6be9a2621c171ceb1225d47d5d62eb90", func := "pub-pinstripe/laws.FnSymbolsCustom", spec := "fnSymbolsCustom", unfollowed := true, recurses := true, apart := false }
def FnSymbolsCustomSaid : Prop := fnSymbolsCustomRow.holds Try.pinned (OpenSpec.ofChange fnSymbolsCustomSpec)

/-- ITS FALSE NEIGHBOUR: 'it returns false'. Refute it at one input. -/
def fnSymbolsCustomWrong : ChangeSpec := { name := "fnSymbolsCustom", fn := fun _ => fun
  | [d1, d2, d3] => { results := [.lit (.bool false)], args := [d1, d2, d3] }
  | _ => none }
def FnSymbolsCustomWrongFalsely : Prop := fnSymbolsCustomRow.holds Try.pinned (OpenSpec.ofChange fnSymbolsCustomWrong)

/-- 'laws.FnSlicer': WHATEVER THE INPUT: true; the input reads as it did. -/
def fnSlicerSpec : ChangeSpec := { name := "fnSlicer", fn := fun _ => fun
  | [d1, d2, d3, d4] => { results := [.lit (.bool true)], args := [d1, d2, d3, d4] }
  | _ => none }
def fnSlicerRow : OpenClaim := { program := "ytjoagjkmghmnnaa", sum := "fc904b1eb85bf5218c121c2b8a1da78c6be9a2621c171ceb1225d47d5d62eb90", func := "pub-pinstripe/laws.FnSlicer", spec := "fnSlicer", unfollowed := true, recurses := true, apart := false }
def FnSlicerSaid : Prop := fnSlicerRow.holds Try.pinned (OpenSpec.ofChange fnSlicerSpec)

/-- ITS FALSE NEIGHBOUR: 'it returns false'. Refute it at one input. -/
def fnSlicerWrong : ChangeSpec := { name := "fnSlicer", fn := fun _ => fun
  | [d1, d2, d3, d4] => { results := [.lit (.bool false)], args := [d1, d2, d3, d4] }
  | _ => none }
def FnSlicerWrongFalsely : Prop := fnSlicerRow.holds Try.pinned (OpenSpec.ofChange fnSlicerWrong)

/-- 'laws.FnTextCRLF': WHATEVER THE INPUT: true; the input reads as it did. -/
def fnTextCRLFSpec : ChangeSpec := { name := "fnTextCRLF", fn := fun _ => fun
  | [d] => { results := [.lit (.bool true)], args := [d] }
  | _ => none }
def fnTextCRLFRow : OpenClaim := { program := "ytjoagjkmghmnnaa", sum := "fc904b1eb85bf5218c121c2b8a1da78c6be9a2621c171ceb1225d47d5d62eb90", func := "pub-pinstripe/laws.FnTextCRLF", spec := "fnTextCRLF", inPlace := ["internal/abi.NoEscape", "internal/bytealg.MakeNoZero"], apart := false }
def FnTextCRLFSaid : Prop := fnTextCRLFRow.holds Try.pinned (OpenSpec.ofChange fnTextCRLFSpec)

/-- ITS FALSE NEIGHBOUR: 'it returns false'. Refute it at one input. -/
def fnTextCRLFWrong : ChangeSpec := { name := "fnTextCRLF", fn := fun _ => fun
  | [d] => { results := [.lit (.bool false)], args := [d] }
  | _ => none }
def FnTextCRLFWrongFalsely : Prop := fnTextCRLFRow.holds Try.pinned (OpenSpec.ofChange fnTextCRLFWrong)

/-- 'laws.FnTextAlignMarkdownWidth': WHATEVER THE INPUT: true; the input reads as it did. -/
def fnTextAlignMarkdownWidthSpec : ChangeSpec := { name := "fnTextAlignMarkdownWidth", fn := fun _ => fun
  | [d1, d2] => { results := [.lit (.bool true)], args := [d1, d2] }
  | _ => none }
def fnTextAlignMarkdownWidthRow : OpenClaim := { program := "ytjoagjkmghmnnaa", sum := "fc904b1eb85bf5218c121c2b8a1da78c6be9a2621c171ceb1225d47d5d62eb90", func := "pub-pinstripe/laws.FnTextAlignMarkdownWidth", spec := "fnTextAlignMarkdownWidth", inPlace := ["internal/abi.NoEscape", "internal/bytealg.MakeNoZero"], apart := false }
def FnTextAlignMarkdownWidthSaid : Prop := fnTextAlignMarkdownWidthRow.holds Try.pinned (OpenSpec.ofChange fnTextAlignMarkdownWidthSpec)

/-- ITS FALSE NEIGHBOUR: 'it returns false'. Refute it at one input. -/
def fnTextAlignMarkdownWidthWrong : ChangeSpec := { name := "fnTextAlignMarkdownWidth", fn := fun _ => fun
  | [d1, d2] => { results := [.lit (.bool false)], args := [d1, d2] }
  | _ => none }
def FnTextAlignMarkdownWidthWrongFalsely : Prop := fnTextAlignMarkdownWidthRow.holds Try.pinned (OpenSpec.ofChange fnTextAlignMarkdownWidthWrong)

/-- 'laws.FnCsvRow': WHATEVER THE INPUT: true; the input reads as it did. -/
def fnCsvRowSpec : ChangeSpec := { name := "fnCsvRow", fn := fun _ => fun
  | [d1, d2, d3, d4, d5] => { results := [.lit (.bool true)], args := [d1, d2, d3, d4, d5] }
  | _ => none }
def fnCsvRowRow : OpenClaim := { program := "ytjoagjkmghmnnaa", sum := "fc904b1eb85bf5218c121c2b8a1da78c6be9a2621c171ceb1225d47d5d62eb90", func := "pub-pinstripe/laws.FnCsvRow", spec := "fnCsvRow", inPlace := ["internal/abi.NoEscape"], recurses := true, apart := false }
def FnCsvRowSaid : Prop := fnCsvRowRow.holds Try.pinned (OpenSpec.ofChange fnCsvRowSpec)

/-- ITS FALSE NEIGHBOUR: 'it returns false'. Refute it at one input. -/
def fnCsvRowWrong : ChangeSpec := { name := "fnCsvRow", fn := fun _ => fun
  | [d1, d2, d3, d4, d5] => { results := [.lit (.bool false)], args := [d1, d2, d3, d4, d5] }
  | _ => none }
def FnCsvRowWrongFalsely : Prop := fnCsvRowRow.holds Try.pinned (OpenSpec.ofChange fnCsvRowWrong)

/-- 'laws.FnTextVAlignLong': WHATEVER THE INPUT: true; the input reads as it did. -/
def fnTextVAlignLongSpec : ChangeSpec := { name := "fnTextVAlignLong", fn := fun _ => fun
  | [d1, d2, d3] => { results := [.lit (.bool true)], args := [d1, d2, d3] }
  | _ => none }
def fnTextVAlignLongRow : OpenClaim := { program := "ytjoagjkmghmnnaa", sum := "fc904b1eb85bf5218c121c2b8a1da78c6be9a2621c171ceb1225d47d5d62eb90", func := "pub-pinstripe/laws.FnTextVAlignLong", spec := "fnTextVAlignLong", inPlace := ["internal/abi.NoEscape", "internal/bytealg.MakeNoZero"], apart := false }
def FnTextVAlignLongSaid : Prop := fnTextVAlignLongRow.holds Try.pinned (OpenSpec.ofChange fnTextVAlignLongSpec)

/-- ITS FALSE NEIGHBOUR: 'it returns false'. Refute it at one input. -/
def fnTextVAlignLongWrong : ChangeSpec := { name := "fnTextVAlignLong", fn := fun _ => fun
  | [d1, d2, d3] => { results := [.lit (.bool false)], args := [d1, d2, d3] }
  | _ => none }
def FnTextVAlignLongWrongFalsely : Prop := fnTextVAlignLongRow.holds Try.pinned (OpenSpec.ofChange fnTextVAlignLongWrong)

/- THE SECOND FORM. 'bulk': how many values and letters a reading holds, each counted each time it is reached (what is shared counts as often as it is met; a slice's spare places count too). A statement '..UptoSaid' is the law's where the arguments, and the package variables that the reading takes, are together of bulk at most 1048576: NARROWER than '..Said'. Prove '..Said' where nothing that the law and all that it calls make is longer than what came in: it says more and counts as full. Else prove '..UptoSaid'. A law counts once. -/
mutual
def uptoBulk {H : Type} : DataW H → Nat
  | .lit (.string bytes) => bytes.length + 1
  | .lit _ => 1
  | .nil => 1
  | .ptr d => uptoBulk d + 1
  | .slice elems spare => uptoBulkAll elems + uptoBulkAll spare + 1
  | .agg parts => uptoBulkAll parts + 1
  | .iface _ d => uptoBulk d + 1
  | .map entries => uptoBulkEntries entries + 1
  | .held _ => 1
def uptoBulkAll {H : Type} : List (DataW H) → Nat
  | [] => 0
  | d :: r => uptoBulk d + uptoBulkAll r
def uptoBulkEntries {H : Type} : List (Lit × DataW H) → Nat
  | [] => 0
  | x :: r => uptoBulkEntry x + uptoBulkEntries r
def uptoBulkEntry {H : Type} : Lit × DataW H → Nat
  | (.string bytes, d) => bytes.length + uptoBulk d + 1
  | (_, d) => uptoBulk d + 1
 end
def uptoSmall : (H : Type) → List (DataW H) → Bool := fun _ ds => decide (uptoBulkAll ds ≤ 1048576)
def OpenSpec.upto (s : _root_.Go.ChangeSpec) : _root_.Go.OpenSpec := { _root_.Go.OpenSpec.ofChange s with cond := some uptoSmall }

/-- 'laws.FnColumnID', WHERE WHAT IT READS IS OF BULK AT MOST 1048576: true; the input reads as it did. -/
def fnColumnIDUptoRow : OpenClaim := { program := "ytjoagjkmghmnnaa", sum := "fc904b1eb85bf5218c121c2b8a1da78c6be9a2621c171ceb1225d47d5d62eb90", func := "pub-pinstripe/laws.FnColumnID", spec := "fnColumnID", recurses := true, apart := false, narrowed := true }
def FnColumnIDUptoSaid : Prop := fnColumnIDUptoRow.holds Try.pinned (OpenSpec.upto fnColumnIDSpec)

/-- 'laws.FnStateText', WHERE WHAT IT READS IS OF BULK AT MOST 1048576: true; the input reads as it did. -/
def fnStateTextUptoRow : OpenClaim := { program := "ytjoagjkmghmnnaa", sum := "fc904b1eb85bf5218c121c2b8a1da78c6be9a2621c171ceb1225d47d5d62eb90", func := "pub-pinstripe/laws.FnStateText", spec := "fnStateText", unfollowed := true, recurses := true, apart := false, narrowed := true }
def FnStateTextUptoSaid : Prop := fnStateTextUptoRow.holds Try.pinned (OpenSpec.upto fnStateTextSpec)

/-- 'laws.FnState', WHERE WHAT IT READS IS OF BULK AT MOST 1048576: true; the input reads as it did. -/
def fnStateUptoRow : OpenClaim := { program := "ytjoagjkmghmnnaa", sum := "fc904b1eb85bf5218c121c2b8a1da78c6be9a2621c171ceb1225d47d5d62eb90", func := "pub-pinstripe/laws.FnState", spec := "fnState", unfollowed := true, recurses := true, apart := false, narrowed := true }
def FnStateUptoSaid : Prop := fnStateUptoRow.holds Try.pinned (OpenSpec.upto fnStateSpec)

/-- 'laws.FnMergedRuns', WHERE WHAT IT READS IS OF BULK AT MOST 1048576: true; the input reads as it did. -/
def fnMergedRunsUptoRow : OpenClaim := { program := "ytjoagjkmghmnnaa", sum := "fc904b1eb85bf5218c121c2b8a1da78c6be9a2621c171ceb1225d47d5d62eb90", func := "pub-pinstripe/laws.FnMergedRuns", spec := "fnMergedRuns", apart := false, narrowed := true }
def FnMergedRunsUptoSaid : Prop := fnMergedRunsUptoRow.holds Try.pinned (OpenSpec.upto fnMergedRunsSpec)

/-- 'laws.FnGrownEven', WHERE WHAT IT READS IS OF BULK AT MOST 1048576: true; the input reads as it did. -/
def fnGrownEvenUptoRow : OpenClaim := { program := "ytjoagjkmghmnnaa", sum := "fc904b1eb85bf5218c121c2b8a1da78c6be9a2621c171ceb1225d47d5d62eb90", func := "pub-pinstripe/laws.FnGrownEven", spec := "fnGrownEven", apart := false, narrowed := true }
def FnGrownEvenUptoSaid : Prop := fnGrownEvenUptoRow.holds Try.pinned (OpenSpec.upto fnGrownEvenSpec)

/-- 'laws.FnHiddenOf', WHERE WHAT IT READS IS OF BULK AT MOST 1048576: true; the input reads as it did. -/
def fnHiddenOfUptoRow : OpenClaim := { program := "ytjoagjkmghmnnaa", sum := "fc904b1eb85bf5218c121c2b8a1da78c6be9a2621c171ceb1225d47d5d62eb90", func := "pub-pinstripe/laws.FnHiddenOf", spec := "fnHiddenOf", unfollowed := true, recurses := true, apart := false, narrowed := true }
def FnHiddenOfUptoSaid : Prop := fnHiddenOfUptoRow.holds Try.pinned (OpenSpec.upto fnHiddenOfSpec)

/-- 'laws.FnSymbolsCustom', WHERE WHAT IT READS IS OF BULK AT MOST 1048576: true; the input reads as it did. -/
def fnSymbolsCustomUptoRow : OpenClaim := { program := "ytjoagjkmghmnnaa", sum := "fc904b1eb85bf5218c121c2b8a1da78c6be9a2621c171ceb1225d47d5d62eb90", func := "pub-pinstripe/laws.FnSymbolsCustom", spec := "fnSymbolsCustom", unfollowed := true, recurses := true, apart := false, narrowed := true }
def FnSymbolsCustomUptoSaid : Prop := fnSymbolsCustomUptoRow.holds Try.pinned (OpenSpec.upto fnSymbolsCustomSpec)

/-- 'laws.FnSlicer', WHERE WHAT IT READS IS OF BULK AT MOST 1048576: true; the input reads as it did. -/
def fnSlicerUptoRow : OpenClaim := { program := "ytjoagjkmghmnnaa", sum := "fc904b1eb85bf5218c121c2b8a1da78c6be9a2621c171ceb1225d47d5d62eb90", func := "pub-pinstripe/laws.FnSlicer", spec := "fnSlicer", unfollowed := true, recurses := true, apart := false, narrowed := true }
def FnSlicerUptoSaid : Prop := fnSlicerUptoRow.holds Try.pinned (OpenSpec.upto fnSlicerSpec)

/-- 'laws.FnTextCRLF', WHERE WHAT IT READS IS OF BULK AT MOST 1048576: true; the input reads as it did. -/
def fnTextCRLFUptoRow : OpenClaim := { program := "ytjoagjkmghmnnaa", sum := "fc904b1eb85bf5218c121c2b8a1da78c6be9a2621c171ceb1225d47d5d62eb90", func := "pub-pinstripe/laws.FnTextCRLF", spec := "fnTextCRLF", inPlace := ["internal/abi.NoEscape", "internal/bytealg.MakeNoZero"], apart := false, narrowed := true }
def FnTextCRLFUptoSaid : Prop := fnTextCRLFUptoRow.holds Try.pinned (OpenSpec.upto fnTextCRLFSpec)

/-- 'laws.FnTextAlignMarkdownWidth', WHERE WHAT IT READS IS OF BULK AT MOST 1048576: true; the input reads as it did. -/
def fnTextAlignMarkdownWidthUptoRow : OpenClaim := { program := "ytjoagjkmghmnnaa", sum := "fc904b1eb85bf5218c121c2b8a1da78c6be9a2621c171ceb1225d47d5d62eb90", func := "pub-pinstripe/laws.FnTextAlignMarkdownWidth", spec := "fnTextAlignMarkdownWidth", inPlace := ["internal/abi.NoEscape", "internal/bytealg.MakeNoZero"], apart := false, narrowed := true }
def FnTextAlignMarkdownWidthUptoSaid : Prop := fnTextAlignMarkdownWidthUptoRow.holds Try.pinned (OpenSpec.upto fnTextAlignMarkdownWidthSpec)

/-- 'laws.FnCsvRow', WHERE WHAT IT READS IS OF BULK AT MOST 1048576: true; the input reads as it did. -/
def fnCsvRowUptoRow : OpenClaim := { program := "ytjoagjkmghmnnaa", sum := "fc904b1eb85bf5218c121c2b8a1da78c6be9a2621c171ceb1225d47d5d62eb90", func := "pub-pinstripe/laws.FnCsvRow", spec := "fnCsvRow", inPlace := ["internal/abi.NoEscape"], recurses := true, apart := false, narrowed := true }
def FnCsvRowUptoSaid : Prop := fnCsvRowUptoRow.holds Try.pinned (OpenSpec.upto fnCsvRowSpec)

/-- 'laws.FnTextVAlignLong', WHERE WHAT IT READS IS OF BULK AT MOST 1048576: true; the input reads as it did. -/
def fnTextVAlignLongUptoRow : OpenClaim := { program := "ytjoagjkmghmnnaa", sum := "fc904b1eb85bf5218c121c2b8a1da78c6be9a2621c171ceb1225d47d5d62eb90", func := "pub-pinstripe/laws.FnTextVAlignLong", spec := "fnTextVAlignLong", inPlace := ["internal/abi.NoEscape", "internal/bytealg.MakeNoZero"], apart := false, narrowed := true }
def FnTextVAlignLongUptoSaid : Prop := fnTextVAlignLongUptoRow.holds Try.pinned (OpenSpec.upto fnTextVAlignLongSpec)

end Rows
end Go.Proofs.Ytjoagjkmghmnnaa
