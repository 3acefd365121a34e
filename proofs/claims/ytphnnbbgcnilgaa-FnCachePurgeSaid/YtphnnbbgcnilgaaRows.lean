/-
  No cell of these rows narrows 'for every input' (looked for: loops, veiled, ifaces, maps, wideKeys, modest, calm, conditions, laid).
  DERIVED. THE GIVEN ROWS OF THIS SEAT. 3 by the template 'for every input the law returns true; each argument reads behind the call as it read before'; 0 by the template 'total and deterministic' (their statements: YtphnnbbgcnilgaaTotals.lean).
  GIVEN WITH THE SEED: the statements are not yours to turn. If you find one false, say at which input.
  Laid BY PROGRAM, IN A SANDBOX (cutbox-rows.mjs): the forced cells as the released guide's own fill.sh prints them over the translation be42f8445fc3c3f4… (all of the seat's roots in one cut). By AI agents, Wed Nov 11 2026. No macro, syntax, notation, axiom, sorry.
-/
import Derived.Test.YtphnnbbgcnilgaaChecked
import GoSem.Claim
import GoSem.ClaimJoined
import GoSem.ClaimMapViews
import Derived.JoinedTies
import Derived.KernelRfl
namespace Go.Proofs.Ytphnnbbgcnilgaa
/- THE CELL 'sum', in the pinned program and in every row, IS THE sha256 OF THE DUMP (.gsa) THAT YtphnnbbgcnilgaaProg.lean LOADS. Nothing in Lean hashes anything: it is a label: what it is worth is what the hold of that sum in a sandbox is worth. -/
noncomputable def Try.pinned : Pinned := { name := "ytphnnbbgcnilgaa", sum := "be42f8445fc3c3f4644358daf3f86800ebacaade9769ee5382536c4f2e8de1ac", checked := Try.checked }
namespace Rows
def none {H : Type} : Left H := { results := [], args := [] }

/-- 'laws.FnListHTML': WHATEVER THE INPUT: true; the input reads as it did. -/
def fnListHTMLSpec : ChangeSpec := { name := "fnListHTML", fn := fun _ => fun
  | [d1, d2] => { results := [.lit (.bool true)], args := [d1, d2] }
  | _ => none }
def fnListHTMLRow : OpenClaim := { program := "ytphnnbbgcnilgaa", sum := "be42f8445fc3c3f4644358daf3f86800ebacaade9769ee5382536c4f2e8de1ac", func := "pub-pinstripe/laws.FnListHTML", spec := "fnListHTML", inPlace := ["internal/abi.NoEscape", "internal/bytealg.MakeNoZero"], recurses := true, apart := false }
def FnListHTMLSaid : Prop := fnListHTMLRow.holds Try.pinned (OpenSpec.ofChange fnListHTMLSpec)

/-- ITS FALSE NEIGHBOUR: 'it returns false'. Refute it at one input. -/
def fnListHTMLWrong : ChangeSpec := { name := "fnListHTML", fn := fun _ => fun
  | [d1, d2] => { results := [.lit (.bool false)], args := [d1, d2] }
  | _ => none }
def FnListHTMLWrongFalsely : Prop := fnListHTMLRow.holds Try.pinned (OpenSpec.ofChange fnListHTMLWrong)

/-- 'laws.FnCacheLatest': WHATEVER THE INPUT: true; the input reads as it did. -/
def fnCacheLatestSpec : ChangeSpec := { name := "fnCacheLatest", fn := fun _ => fun
  | [d1, d2] => { results := [.lit (.bool true)], args := [d1, d2] }
  | _ => none }
def fnCacheLatestRow : OpenClaim := { program := "ytphnnbbgcnilgaa", sum := "be42f8445fc3c3f4644358daf3f86800ebacaade9769ee5382536c4f2e8de1ac", func := "pub-pinstripe/laws.FnCacheLatest", spec := "fnCacheLatest", unfollowed := true, recurses := true, apart := false }
def FnCacheLatestSaid : Prop := fnCacheLatestRow.holds Try.pinned (OpenSpec.ofChange fnCacheLatestSpec)

/-- ITS FALSE NEIGHBOUR: 'it returns false'. Refute it at one input. -/
def fnCacheLatestWrong : ChangeSpec := { name := "fnCacheLatest", fn := fun _ => fun
  | [d1, d2] => { results := [.lit (.bool false)], args := [d1, d2] }
  | _ => none }
def FnCacheLatestWrongFalsely : Prop := fnCacheLatestRow.holds Try.pinned (OpenSpec.ofChange fnCacheLatestWrong)

/-- 'laws.FnCachePurge': WHATEVER THE INPUT: true; the input reads as it did. -/
def fnCachePurgeSpec : ChangeSpec := { name := "fnCachePurge", fn := fun _ => fun
  | [d1, d2, d3] => { results := [.lit (.bool true)], args := [d1, d2, d3] }
  | _ => none }
def fnCachePurgeRow : OpenClaim := { program := "ytphnnbbgcnilgaa", sum := "be42f8445fc3c3f4644358daf3f86800ebacaade9769ee5382536c4f2e8de1ac", func := "pub-pinstripe/laws.FnCachePurge", spec := "fnCachePurge", unfollowed := true, recurses := true, apart := false }
def FnCachePurgeSaid : Prop := fnCachePurgeRow.holds Try.pinned (OpenSpec.ofChange fnCachePurgeSpec)

/-- ITS FALSE NEIGHBOUR: 'it returns false'. Refute it at one input. -/
def fnCachePurgeWrong : ChangeSpec := { name := "fnCachePurge", fn := fun _ => fun
  | [d1, d2, d3] => { results := [.lit (.bool false)], args := [d1, d2, d3] }
  | _ => none }
def FnCachePurgeWrongFalsely : Prop := fnCachePurgeRow.holds Try.pinned (OpenSpec.ofChange fnCachePurgeWrong)

/- THE SECOND FORM. 'bulk': how many values and letters a reading holds, each counted each time it is reached (what is shared counts as often as it is met; a slice's spare places count too). A statement '..UptoSaid' is the law's where the arguments, and the package variables that the reading takes, are together of bulk at most 1048576: NARROWER than '..Said'. Prove '..Said' where nothing that the law and all that it calls make is longer than what came in: it says more and counts as full. Else prove '..UptoSaid'. A law counts once. -/
mutual
def uptoBulk {H : Type} : DataW H → Nat
  | .lit (.string bytes) => bytes.length + 1
  | .lit _ => 1
  | .nil => 1
  | .ptr d => uptoBulk d + 1
  | .slice elems spare => uptoBulkAll elems + uptoBulkAll spare + 1
  | .agg parts => uptoBulkAll parts + 1
  | .iface _ d => uptoBulk d + 1
  | .map entries => uptoBulkEntries entries + 1
  | .held _ => 1
def uptoBulkAll {H : Type} : List (DataW H) → Nat
  | [] => 0
  | d :: r => uptoBulk d + uptoBulkAll r
def uptoBulkEntries {H : Type} : List (Lit × DataW H) → Nat
  | [] => 0
  | x :: r => uptoBulkEntry x + uptoBulkEntries r
def uptoBulkEntry {H : Type} : Lit × DataW H → Nat
  | (.string bytes, d) => bytes.length + uptoBulk d + 1
  | (_, d) => uptoBulk d + 1
 end
def uptoSmall : (H : Type) → List (DataW H) → Bool := fun _ ds => decide (uptoBulkAll ds ≤ 1048576)
def OpenSpec.upto (s : _root_.Go.ChangeSpec) : _root_.Go.OpenSpec := { _root_.Go.OpenSpec.ofChange s with cond := some uptoSmall }

/-- 'laws.FnListHTML', WHERE WHAT IT READS IS OF BULK AT MOST 1048576: true; the input reads as it did. -/
def fnListHTMLUptoRow : OpenClaim := { program := "ytphnnbbgcnilgaa", sum := "be42f8445fc3c3f4644358daf3f86800ebacaade9769ee5382536c4f2e8de1ac", func := "pub-pinstripe/laws.FnListHTML", spec := "fnListHTML", inPlace := ["internal/abi.NoEscape", "internal/bytealg.MakeNoZero"], recurses := true, apart := false, narrowed := true }
def FnListHTMLUptoSaid : Prop := fnListHTMLUptoRow.holds Try.pinned (OpenSpec.upto fnListHTMLSpec)

/-- 'laws.FnCacheLatest', WHERE WHAT IT READS IS OF BULK AT MOST 1048576: true; the input reads as it did. -/
def fnCacheLatestUptoRow : OpenClaim := { program := "ytphnnbbgcnilgaa", sum := "be42f8445fc3c3f4644358daf3f86800ebacaade9769ee5382536c4f2e8de1ac", func := "pub-pinstripe/laws.FnCacheLatest", spec := "fnCacheLatest", unfollowed := true, recurses := true, apart := false, narrowed := true }
def FnCacheLatestUptoSaid : Prop := fnCacheLatestUptoRow.holds Try.pinned (OpenSpec.upto fnCacheLatestSpec)

/-- 'laws.FnCachePurge', WHERE WHAT IT READS IS OF BULK AT MOST 1048576: true; the input reads as it did. -/
def fnCachePurgeUptoRow : OpenClaim := { program := "ytphnnbbgcnilgaa", sum := "be42f8445fc3c3f4644358daf3f86800ebacaade9769ee5382536c4f2e8de1ac", func := "pub-pinstripe/laws.FnCachePurge", spec := "fnCachePurge", unfollowed := true, recurses := true, apart := false, narrowed := true }
def FnCachePurgeUptoSaid : Prop := fnCachePurgeUptoRow.holds Try.pinned (OpenSpec.upto fnCachePurgeSpec)

end Rows
end Go.Proofs.Ytphnnbbgcnilgaa
