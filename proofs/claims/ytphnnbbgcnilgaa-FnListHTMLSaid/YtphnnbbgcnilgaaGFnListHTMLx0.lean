-- printed by a program of this session (gprint.py) out of the translation; Lean checks it
import Derived.Test.YtphnnbbgcnilgaaProg
import Derived.Below
import Derived.Deep.Draws
import Derived.Deep.AppendLies
import Derived.Maps.AppendAt
import Derived.OwnWalk
import Derived.Laws.BytesArg
import Derived.Laws.MakeOwn
import Derived.Laws.OwnMore
import Derived.Deep.OwnRows
import Derived.Tactics
import Derived.Lib.ConvBytes
import Derived.Laws.Slices
import Derived.WalkKit
import Derived.KernelRfl
import Derived.RowKit3
import Derived.Deep.LoopGhost
import Derived.Deep.QuietTactic
import Derived.BigQuiet
import Derived.WideLaws
import Derived.Deep.DeepCutAuto
import Derived.Deep.CutBlock
import Derived.Deep.RegionHeld3
import Derived.Laws.Rows
import Derived.Lib.AppendStr
import Derived.ArgAppend
import Derived.Laws.IdiomCopy
import Derived.OrdersHeld
import Derived.Laws.BitsLemmas
import Derived.RowKit
import Derived.Test.YtphnnbbgcnilgaaWWords
import Derived.Test.YtphnnbbgcnilgaaWLast
import Derived.Test.YtphnnbbgcnilgaaWTab
import Derived.Test.YtphnnbbgcnilgaaWFour
import Derived.Test.YtphnnbbgcnilgaaWQPut
import Derived.Test.YtphnnbbgcnilgaaWApart
import Derived.Test.YtphnnbbgcnilgaaWArr
import Derived.Test.YtphnnbbgcnilgaaWZeros
import Derived.Test.YtphnnbbgcnilgaaWFoot
import Derived.Test.YtphnnbbgcnilgaaWKept
import Derived.Test.YtphnnbbgcnilgaaWShare
import Derived.Test.YtphnnbbgcnilgaaWN
import Derived.Test.YtphnnbbgcnilgaaWFootNe
import Derived.Test.YtphnnbbgcnilgaaWAt
import Derived.Test.YtphnnbbgcnilgaaWEqStruct
import Derived.Test.YtphnnbbgcnilgaaWRepsOne
import Derived.Test.YtphnnbbgcnilgaaWInv
import Derived.Test.YtphnnbbgcnilgaaWInvWords
import Derived.Test.YtphnnbbgcnilgaaWGuard
import Derived.Test.YtphnnbbgcnilgaaWNEv
import Derived.Test.YtphnnbbgcnilgaaWMore
namespace Go.Proofs.Ytphnnbbgcnilgaa.GFnListHTML
open Go.RowKit Go.Proofs.YtphnnbbgcnilgaaW.PrintWords Go.Proofs.YtphnnbbgcnilgaaW.PrintLast Go.Proofs.YtphnnbbgcnilgaaW.PrintMore
attribute [local go_sem] max2_int min2_int max_two min_two max_three min_three max_four min_four   -- for this text's walks alone
set_option linter.unusedVariables false
set_option linter.unusedSimpArgs false



def errW : Option Int → Value
  | none => .nilIface
  | some c => .iface 0 (.int .i64 c)
theorem errW_none : errW none = .nilIface := rfl
theorem errW_some (c : Int) : errW (some c) = .iface 0 (.int .i64 c) := rfl

theorem info5 : (Try.prog.info? 5).map (fun i => (i.zero, i.size, i.bytes)) = some (some (.int .u8 0), 1, 1) := by kernel_rfl
theorem info58 : (Try.prog.info? 58).map (fun i => (i.zero, i.size, i.bytes)) = some (some (.agg #[(.int .i64 0), (.string ⟨#[]⟩), (.slice none 0 0)]), 3, 48) := by kernel_rfl
-- the values' own types
/-! #### struct type 49 -/
structure S49 where
  f0 : ByteArray
  f1 : Int
def z49 : S49 := ⟨(⟨#[]⟩ : ByteArray), (0 : Int)⟩
def k49 : Kd S49 := Kd.iso (Kd.pair Kd.string (Kd.int .i64)) (fun x : S49 => (x.f0, x.f1))
theorem k49_open {w : World} {x : S49} {cs : List Value} (h : k49.K w x cs) : cs = [.string x.f0, .int .i64 x.f1] := by
  obtain ⟨_, _, rfl, rfl, rfl⟩ := h
  exact rfl
def rd_T49 (xs : List S49) (i : Int) : S49 := xs.getD i.toNat z49
theorem at_T49 {w : World} {A : Option Addr} {n : Nat} {xs : List S49} (h : Kd.C k49 w A n xs) (i : Int) (h0 : 0 ≤ i) (h1 : i < n) : ∃ ad , A = some ad ∧ w.cell? (ad.add (i.toNat * 2)) = some (.string (rd_T49 xs i).f0) ∧ w.cell? ⟨(ad.add (i.toNat * 2)).block, (ad.add (i.toNat * 2)).off + 1, none⟩ = some (.int .i64 (rd_T49 xs i).f1) := by
  obtain ⟨ad, c, e, _, hK, hc0⟩ := Kd.C_get h z49 i h0 h1
  have hc : ∀ j u, c[j]? = some u → w.cell? (ad.add (i.toNat * 2 + j)) = some u := hc0
  obtain rfl := k49_open hK
  exact ⟨ad, e, hc 0 _ rfl, by rw [← add_field _ _ 1 (by omega)]; exact hc 1 _ rfl⟩

def rd_L4 (xs : List (List ByteArray)) (i : Int) : (List ByteArray) := xs.getD i.toNat ([] : List ByteArray)
/-! #### struct type 58 -/
structure S58 where
  f0 : Int
  f1 : ByteArray
  f2 : (List ByteArray)
def z58 : S58 := ⟨(0 : Int), (⟨#[]⟩ : ByteArray), ([] : List ByteArray)⟩
def k58 : Kd S58 := Kd.iso (Kd.pair (Kd.int .i64) (Kd.pair Kd.string (Kd.slice 9 Kd.string))) (fun x : S58 => (x.f0, x.f1, x.f2))
theorem k58_open {w : World} {x : S58} {cs : List Value} (h : k58.K w x cs) : ∃ A2 c2, cs = [.int .i64 x.f0, .string x.f1, .slice A2 x.f2.length c2] ∧ x.f2.length ≤ c2 ∧ Kd.string.C w A2 x.f2.length x.f2 := by
  obtain ⟨_, _, rfl, rfl, ⟨_, _, rfl, rfl, ⟨A2, c2, rfl, l2, g2⟩⟩⟩ := h
  exact ⟨A2, c2, rfl, l2, g2⟩
theorem k58_mkM (w : World) (base : Nat) (ok : Nat → Prop) (x : S58) {v2 : Value} (g2 : Kd.string.R 9 w base ok v2 x.f2) : k58.M w base ok x [.int .i64 x.f0, .string x.f1, v2] := ⟨[.int .i64 x.f0], [.string x.f1, v2], rfl, rfl, ⟨[.string x.f1], [v2], rfl, rfl, ⟨v2, rfl, g2⟩⟩⟩
def rd_T58 (xs : List S58) (i : Int) : S58 := xs.getD i.toNat z58
theorem at_T58 {w : World} {A : Option Addr} {n : Nat} {xs : List S58} (h : Kd.C k58 w A n xs) (i : Int) (h0 : 0 ≤ i) (h1 : i < n) : ∃ ad A2 c2, A = some ad ∧ w.cell? (ad.add (i.toNat * 3)) = some (.int .i64 (rd_T58 xs i).f0) ∧ w.cell? ⟨(ad.add (i.toNat * 3)).block, (ad.add (i.toNat * 3)).off + 1, none⟩ = some (.string (rd_T58 xs i).f1) ∧ w.cell? ⟨(ad.add (i.toNat * 3)).block, (ad.add (i.toNat * 3)).off + 2, none⟩ = some (.slice A2 (rd_T58 xs i).f2.length c2) ∧ (rd_T58 xs i).f2.length ≤ c2 ∧ Kd.string.C w A2 (rd_T58 xs i).f2.length (rd_T58 xs i).f2 := by
  obtain ⟨ad, c, e, _, hK, hc0⟩ := Kd.C_get h z58 i h0 h1
  have hc : ∀ j u, c[j]? = some u → w.cell? (ad.add (i.toNat * 3 + j)) = some u := hc0
  obtain ⟨A2, c2, rfl, l2, g2⟩ := k58_open hK
  exact ⟨ad, A2, c2, e, hc 0 _ rfl, by rw [← add_field _ _ 1 (by omega)]; exact hc 1 _ rfl, by rw [← add_field _ _ 2 (by omega)]; exact hc 2 _ rfl, l2, g2⟩

def rd_L6 (xs : List (List S58)) (i : Int) : (List S58) := xs.getD i.toNat ([] : List S58)
end Go.Proofs.Ytphnnbbgcnilgaa.GFnListHTML
