/-
  No cell of these rows narrows 'for every input' (looked for: loops, veiled, ifaces, maps, wideKeys, modest, calm, conditions, laid).
  DERIVED. THE GIVEN ROWS OF THIS SEAT. 5 by the template 'for every input the law returns true; each argument reads behind the call as it read before'; 0 by the template 'total and deterministic' (their statements: YtapbnbinoakbhaaTotals.lean).
  GIVEN WITH THE SEED: the statements are not yours to turn. If you find one false, say at which input.
  Laid BY PROGRAM, IN A SANDBOX (cutbox-rows.mjs): the forced cells as the released guide's own fill.sh prints them over the translation df9f50a0dba15574… (all of the seat's roots in one cut). By AI agents, Wed Nov 11 2026. No macro, syntax, notation, axiom, sorry.
-/
import Derived.Test.YtapbnbinoakbhaaChecked
import GoSem.Claim
import GoSem.ClaimJoined
import GoSem.ClaimMapViews
import Derived.JoinedTies
import Derived.KernelRfl
namespace Go.Proofs.Ytapbnbinoakbhaa
/- THE CELL 'sum', in the pinned program and in every row, IS THE sha256 OF THE DUMP (.gsa) THAT YtapbnbinoakbhaaProg.lean LOADS. Nothing in Lean hashes anything: it is a label: what it is worth is what the hold of that sum in a sandbox is worth. -/
noncomputable def Try.pinned : Pinned := { name := "ytapbnbinoakbhaa", sum := "df9f50a0dba155747ba4bf2667f140c218918473f1fe0b6ddf90df974313a174", checked := Try.checked }
namespace Rows
def none {H : Type} : Left H := { results := [], args := [] }

/-- 'laws.FnCacheLatest': WHATEVER THE INPUT: true; the input reads as it did. -/
def fnCacheLatestSpec : ChangeSpec := { name := "fnCacheLatest", fn := fun _ => fun
  | [d1, d2] => { results := [.lit (.bool true)], args := [d1, d2] }
  | _ => none }
def fnCacheLatestRow : OpenClaim := { program := "ytapbnbinoakbhaa", sum := "df9f50a0dba155747ba4bf2667f140c218918473f1fe0b6ddf90df974313a174", func := "pub-pinstripe/laws.FnCacheLatest", spec := "fnCacheLatest", unfollowed := true, recurses := true, apart := false }
def FnCacheLatestSaid : Prop := fnCacheLatestRow.holds Try.pinned (OpenSpec.ofChange fnCacheLatestSpec)

/-- ITS FALSE NEIGHBOUR: 'it returns false'. Refute it at one input. -/
def fnCacheLatestWrong : ChangeSpec := { name := "fnCacheLatest", fn := fun _ => fun
  | [d1, d2] => { results := [.lit (.bool false)], args := [d1, d2] }
  | _ => none }
def FnCacheLatestWrongFalsely : Prop := fnCacheLatestRow.holds Try.pinned (OpenSpec.ofChange fnCacheLatestWrong)

/-- 'laws.FnCachePurge': WHATEVER THE INPUT: true; the input reads as it did. -/
def fnCachePurgeSpec : ChangeSpec := { name := "fnCachePurge", fn := fun _ => fun
  | [d1, d2, d3] => { results := [.lit (.bool true)], args := [d1, d2, d3] }
  | _ => none }
def fnCachePurgeRow : OpenClaim := { program := "ytapbnbinoakbhaa", sum := "df9f50a0dba155747ba4bf2667f140c218918473f1fe0b6ddf90df974313a174", func := "pub-pinstripe/laws.FnCachePurge", spec := "fnCachePurge", unfollowed := true, recurses := true, apart := false }
def FnCachePurgeSaid : Prop := fnCachePurgeRow.holds Try.pinned (OpenSpec.ofChange fnCachePurgeSpec)

/-- ITS FALSE NEIGHBOUR: 'it returns false'. Refute it at one input. -/
def fnCachePurgeWrong : ChangeSpec := { name := "fnCachePurge", fn := fun _ => fun
  | [d1, d2, d3] => { results := [.lit (.bool false)], args := [d1, d2, d3] }
  | _ => none }
def FnCachePurgeWrongFalsely : Prop := fnCachePurgeRow.holds Try.pinned (OpenSpec.ofChange fnCachePurgeWrong)

/-- 'laws.FnGrownEven': WHATEVER THE INPUT: true; the input reads as it did. -/
def fnGrownEvenSpec : ChangeSpec := { name := "fnGrownEven", fn := fun _ => fun
  | [d1, d2, d3] => { results := [.lit (.bool true)], args := [d1, d2, d3] }
  | _ => none }
def fnGrownEvenRow : OpenClaim := { program := "ytapbnbinoakbhaa", sum := "df9f50a0dba155747ba4bf2667f140c218918473f1fe0b6ddf90df974313a174", func := "pub-pinstripe/laws.FnGrownEven", spec := "fnGrownEven", apart := false }
def FnGrownEvenSaid : Prop := fnGrownEvenRow.holds Try.pinned (OpenSpec.ofChange fnGrownEvenSpec)

/-- ITS FALSE NEIGHBOUR: 'it returns false'. Refute it at one input. -/
def fnGrownEvenWrong : ChangeSpec := { name := "fnGrownEven", fn := fun _ => fun
  | [d1, d2, d3] => { results := [.lit (.bool false)], args := [d1, d2, d3] }
  | _ => none }
def FnGrownEvenWrongFalsely : Prop := fnGrownEvenRow.holds Try.pinned (OpenSpec.ofChange fnGrownEvenWrong)

/-- 'laws.FnHiddenOf': WHATEVER THE INPUT: true; the input reads as it did. -/
def fnHiddenOfSpec : ChangeSpec := { name := "fnHiddenOf", fn := fun _ => fun
  | [d1, d2] => { results := [.lit (.bool true)], args := [d1, d2] }
  | _ => none }
def fnHiddenOfRow : OpenClaim := { program := "ytapbnbinoakbhaa", sum := "df9f50a0dba155747ba4bf2667f140c218918473f1fe0b6ddf90df974313a174", func := "pub-pinstripe/laws.FnHiddenOf", spec := "fnHiddenOf", unfollowed := true, recurses := true, apart := false }
def FnHiddenOfSaid : Prop := fnHiddenOfRow.holds Try.pinned (OpenSpec.ofChange fnHiddenOfSpec)

/-- ITS FALSE NEIGHBOUR: 'it returns false'. Refute it at one input. -/
def fnHiddenOfWrong : ChangeSpec := { name := "fnHiddenOf", fn := fun _ => fun
  | [d1, d2] => { results := [.lit (.bool false)], args := [d1, d2] }
  | _ => none }
def FnHiddenOfWrongFalsely : Prop := fnHiddenOfRow.holds Try.pinned (OpenSpec.ofChange fnHiddenOfWrong)

/-- 'laws.FnSlicer': WHATEVER THE INPUT: true; the input reads as it did. -/
def fnSlicerSpec : ChangeSpec := { name := "fnSlicer", fn := fun _ => fun
  | [d1, d2, d3, d4] => { results := [.lit (.bool true)], args := [d1, d2, d3, d4] }
  | _ => none }
def fnSlicerRow : OpenClaim := { program := "ytapbnbinoakbhaa", sum := "df9f50a0dba155747ba4bf2667f140c218918473f1fe0b6ddf90df974313a174", func := "pub-pinstripe/laws.FnSlicer", spec := "fnSlicer", unfollowed := true, recurses := true, apart := false }
def FnSlicerSaid : Prop := fnSlicerRow.holds Try.pinned (OpenSpec.ofChange fnSlicerSpec)

/-- ITS FALSE NEIGHBOUR: 'it returns false'. Refute it at one input. -/
def fnSlicerWrong : ChangeSpec := { name := "fnSlicer", fn := fun _ => fun
  | [d1, d2, d3, d4] => { results := [.lit (.bool false)], args := [d1, d2, d3, d4] }
  | _ => none }
def FnSlicerWrongFalsely : Prop := fnSlicerRow.holds Try.pinned (OpenSpec.ofChange fnSlicerWrong)

/- THE SECOND FORM. 'bulk': how many values and letters a reading holds, each counted each time it is reached (what is shared counts as often as it is met; a slice's spare places count too). A statement '..UptoSaid' is the law's where the arguments, and the package variables that the reading takes, are together of bulk at most 1048576: NARROWER than '..Said'. Prove '..Said' where nothing that the law and all that it calls make is longer than what came in: it says more and counts as full. Else prove '..UptoSaid'. A law counts once. -/
mutual
def uptoBulk {H : Type} : DataW H → Nat
  | .lit (.string bytes) => bytes.length + 1
  | .lit _ => 1
  | .nil => 1
  | .ptr d => uptoBulk d + 1
  | .slice elems spare => uptoBulkAll elems + uptoBulkAll spare + 1
  | .agg parts => uptoBulkAll parts + 1
  | .iface _ d => uptoBulk d + 1
  | .map entries => uptoBulkEntries entries + 1
  | .held _ => 1
def uptoBulkAll {H : Type} : List (DataW H) → Nat
  | [] => 0
  | d :: r => uptoBulk d + uptoBulkAll r
def uptoBulkEntries {H : Type} : List (Lit × DataW H) → Nat
  | [] => 0
  | x :: r => uptoBulkEntry x + uptoBulkEntries r
def uptoBulkEntry {H : Type} : Lit × DataW H → Nat
  | (.string bytes, d) => bytes.length + uptoBulk d + 1
  | (_, d) => uptoBulk d + 1
 end
def uptoSmall : (H : Type) → List (DataW H) → Bool := fun _ ds => decide (uptoBulkAll ds ≤ 1048576)
def OpenSpec.upto (s : _root_.Go.ChangeSpec) : _root_.Go.OpenSpec := { _root_.Go.OpenSpec.ofChange s with cond := some uptoSmall }

/-- 'laws.FnCacheLatest', WHERE WHAT IT READS IS OF BULK AT MOST 1048576: true; the input reads as it did. -/
def fnCacheLatestUptoRow : OpenClaim := { program := "ytapbnbinoakbhaa", sum := "df9f50a0dba155747ba4bf2667f140c218918473f1fe0b6ddf90df974313a174", func := "pub-pinstripe/laws.FnCacheLatest", spec := "fnCacheLatest", unfollowed := true, recurses := true, apart := false, narrowed := true }
def FnCacheLatestUptoSaid : Prop := fnCacheLatestUptoRow.holds Try.pinned (OpenSpec.upto fnCacheLatestSpec)

/-- 'laws.FnCachePurge', WHERE WHAT IT READS IS OF BULK AT MOST 1048576: true; the input reads as it did. -/
def fnCachePurgeUptoRow : OpenClaim := { program := "ytapbnbinoakbhaa", sum := "df9f50a0dba155747ba4bf2667f140c218918473f1fe0b6ddf90df974313a174", func := "pub-pinstripe/laws.FnCachePurge", spec := "fnCachePurge", unfollowed := true, recurses := true, apart := false, narrowed := true }
def FnCachePurgeUptoSaid : Prop := fnCachePurgeUptoRow.holds Try.pinned (OpenSpec.upto fnCachePurgeSpec)

/-- 'laws.FnGrownEven', WHERE WHAT IT READS IS OF BULK AT MOST 1048576: true; the input reads as it did. -/
def fnGrownEvenUptoRow : OpenClaim := { program := "ytapbnbinoakbhaa", sum := "df9f50a0dba155747ba4bf2667f140c218918473f1fe0b6ddf90df974313a174", func := "pub-pinstripe/laws.FnGrownEven", spec := "fnGrownEven", apart := false, narrowed := true }
def FnGrownEvenUptoSaid : Prop := fnGrownEvenUptoRow.holds Try.pinned (OpenSpec.upto fnGrownEvenSpec)

/-- 'laws.FnHiddenOf', WHERE WHAT IT READS IS OF BULK AT MOST 1048576: true; the input reads as it did. -/
def fnHiddenOfUptoRow : OpenClaim := { program := "ytapbnbinoakbhaa", sum := "df9f50a0dba155747ba4bf2667f140c218918473f1fe0b6ddf90df974313a174", func := "pub-pinstripe/laws.FnHiddenOf", spec := "fnHiddenOf", unfollowed := true, recurses := true, apart := false, narrowed := true }
def FnHiddenOfUptoSaid : Prop := fnHiddenOfUptoRow.holds Try.pinned (OpenSpec.upto fnHiddenOfSpec)

/-- 'laws.FnSlicer', WHERE WHAT IT READS IS OF BULK AT MOST 1048576: true; the input reads as it did. -/
def fnSlicerUptoRow : OpenClaim := { program := "ytapbnbinoakbhaa", sum := "df9f50a0dba155747ba4bf2667f140c218918473f1fe0b6ddf90df974313a174", func := "pub-pinstripe/laws.FnSlicer", spec := "fnSlicer", unfollowed := true, recurses := true, apart := false, narrowed := true }
def FnSlicerUptoSaid : Prop := fnSlicerUptoRow.holds Try.pinned (OpenSpec.upto fnSlicerSpec)

end Rows
end Go.Proofs.Ytapbnbinoakbhaa
