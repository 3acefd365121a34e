-- printed by a program of this session (gprint.py) out of the translation; Lean checks it
import Derived.Test.YtphnnbbgcnilgaaDoorProg
import Derived.Below
import Derived.Deep.Draws
import Derived.Deep.AppendLies
import Derived.Maps.AppendAt
import Derived.OwnWalk
import Derived.Laws.BytesArg
import Derived.Laws.MakeOwn
import Derived.Laws.OwnMore
import Derived.Deep.OwnRows
import Derived.Tactics
import Derived.Lib.ConvBytes
import Derived.Laws.Slices
import Derived.WalkKit
import Derived.KernelRfl
import Derived.RowKit3
import Derived.Deep.LoopGhost
import Derived.Deep.QuietTactic
import Derived.BigQuiet
import Derived.WideLaws
import Derived.Deep.DeepCutAuto
import Derived.Deep.CutBlock
import Derived.Deep.RegionHeld3
import Derived.Laws.Rows
import Derived.Lib.AppendStr
import Derived.ArgAppend
import Derived.Laws.IdiomCopy
import Derived.OrdersHeld
import Derived.Laws.BitsLemmas
import Derived.RowKit
import Derived.Test.YtphnnbbgcnilgaaDoorWWords
import Derived.Test.YtphnnbbgcnilgaaDoorWLast
import Derived.Test.YtphnnbbgcnilgaaDoorWTab
import Derived.Test.YtphnnbbgcnilgaaDoorWFour
import Derived.Test.YtphnnbbgcnilgaaDoorWQPut
import Derived.Test.YtphnnbbgcnilgaaDoorWApart
import Derived.Test.YtphnnbbgcnilgaaDoorWArr
import Derived.Test.YtphnnbbgcnilgaaDoorWZeros
import Derived.Test.YtphnnbbgcnilgaaDoorWFoot
import Derived.Test.YtphnnbbgcnilgaaDoorWKept
import Derived.Test.YtphnnbbgcnilgaaDoorWShare
import Derived.Test.YtphnnbbgcnilgaaDoorWN
import Derived.Test.YtphnnbbgcnilgaaDoorWFootNe
import Derived.Test.YtphnnbbgcnilgaaDoorWAt
import Derived.Test.YtphnnbbgcnilgaaDoorWEqStruct
import Derived.Test.YtphnnbbgcnilgaaDoorWRepsOne
import Derived.Test.YtphnnbbgcnilgaaDoorWInv
import Derived.Test.YtphnnbbgcnilgaaDoorWInvWords
import Derived.Test.YtphnnbbgcnilgaaDoorWGuard
import Derived.Test.YtphnnbbgcnilgaaDoorWNEv
import Derived.Test.YtphnnbbgcnilgaaDoorWMore
namespace Go.Proofs.YtphnnbbgcnilgaaDoor.GFnListFormat
open Go.RowKit Go.Proofs.YtphnnbbgcnilgaaDoorW.PrintWords Go.Proofs.YtphnnbbgcnilgaaDoorW.PrintLast Go.Proofs.YtphnnbbgcnilgaaDoorW.PrintMore
attribute [local go_sem] max2_int min2_int max_two min_two max_three min_three max_four min_four   -- for this text's walks alone
set_option linter.unusedVariables false
set_option linter.unusedSimpArgs false



def errW : Option Int → Value
  | none => .nilIface
  | some c => .iface 0 (.int .i64 c)
theorem errW_none : errW none = .nilIface := rfl
theorem errW_some (c : Int) : errW (some c) = .iface 0 (.int .i64 c) := rfl

theorem info36 : (Tryd.prog.info? 36).map (fun i => (i.zero, i.size, i.bytes)) = some (some (.agg #[(.string ⟨#[]⟩), (.int .i64 0)]), 2, 24) := by kernel_rfl
theorem info57 : (Tryd.prog.info? 57).map (fun i => (i.zero, i.size, i.bytes)) = some (some (.agg #[(.int .i64 0), (.string ⟨#[]⟩), (.slice none 0 0)]), 3, 48) := by kernel_rfl
-- the values' own types
/-! #### struct type 36 -/
structure S36 where
  f0 : ByteArray
  f1 : Int
def z36 : S36 := ⟨(⟨#[]⟩ : ByteArray), (0 : Int)⟩
def k36 : Kd S36 := Kd.iso (Kd.pair Kd.string (Kd.int .i64)) (fun x : S36 => (x.f0, x.f1))
theorem k36_open {w : World} {x : S36} {cs : List Value} (h : k36.K w x cs) : cs = [.string x.f0, .int .i64 x.f1] := by
  obtain ⟨_, _, rfl, rfl, rfl⟩ := h
  exact rfl
theorem k36_openM {w : World} {base : Nat} {ok : Nat → Prop} {x : S36} {cs : List Value} (h : k36.M w base ok x cs) : cs = [.string x.f0, .int .i64 x.f1] := by
  obtain ⟨_, _, rfl, rfl, rfl⟩ := h
  exact rfl
theorem k36_mkM (w : World) (base : Nat) (ok : Nat → Prop) (x : S36)  : k36.M w base ok x [.string x.f0, .int .i64 x.f1] := ⟨[.string x.f0], [.int .i64 x.f1], rfl, rfl, rfl⟩
def rd_T36 (xs : List S36) (i : Int) : S36 := xs.getD i.toNat z36
theorem at_T36 {w : World} {A : Option Addr} {n : Nat} {xs : List S36} (h : Kd.C k36 w A n xs) (i : Int) (h0 : 0 ≤ i) (h1 : i < n) : ∃ ad , A = some ad ∧ w.cell? (ad.add (i.toNat * 2)) = some (.string (rd_T36 xs i).f0) ∧ w.cell? ⟨(ad.add (i.toNat * 2)).block, (ad.add (i.toNat * 2)).off + 1, none⟩ = some (.int .i64 (rd_T36 xs i).f1) := by
  obtain ⟨ad, c, e, _, hK, hc0⟩ := Kd.C_get h z36 i h0 h1
  have hc : ∀ j u, c[j]? = some u → w.cell? (ad.add (i.toNat * 2 + j)) = some u := hc0
  obtain rfl := k36_open hK
  exact ⟨ad, e, hc 0 _ rfl, by rw [← add_field _ _ 1 (by omega)]; exact hc 1 _ rfl⟩

/-! #### struct type 24 -/
structure S24 where
  f0 : Int
  f1 : ByteArray
  f2 : ByteArray
  f3 : ByteArray
  f4 : ByteArray
  f5 : ByteArray
  f6 : ByteArray
  f7 : ByteArray
  f8 : ByteArray
def z24 : S24 := ⟨(0 : Int), (⟨#[]⟩ : ByteArray), (⟨#[]⟩ : ByteArray), (⟨#[]⟩ : ByteArray), (⟨#[]⟩ : ByteArray), (⟨#[]⟩ : ByteArray), (⟨#[]⟩ : ByteArray), (⟨#[]⟩ : ByteArray), (⟨#[]⟩ : ByteArray)⟩
def k24 : Kd S24 := Kd.iso (Kd.pair (Kd.int .i64) (Kd.pair Kd.string (Kd.pair Kd.string (Kd.pair Kd.string (Kd.pair Kd.string (Kd.pair Kd.string (Kd.pair Kd.string (Kd.pair Kd.string Kd.string)))))))) (fun x : S24 => (x.f0, x.f1, x.f2, x.f3, x.f4, x.f5, x.f6, x.f7, x.f8))
def rd_T24 (xs : List S24) (i : Int) : S24 := xs.getD i.toNat z24
def rd_L5 (xs : List (List ByteArray)) (i : Int) : (List ByteArray) := xs.getD i.toNat ([] : List ByteArray)
/-! #### struct type 57 -/
structure S57 where
  f0 : Int
  f1 : ByteArray
  f2 : (List ByteArray)
def z57 : S57 := ⟨(0 : Int), (⟨#[]⟩ : ByteArray), ([] : List ByteArray)⟩
def k57 : Kd S57 := Kd.iso (Kd.pair (Kd.int .i64) (Kd.pair Kd.string (Kd.slice 9 Kd.string))) (fun x : S57 => (x.f0, x.f1, x.f2))
theorem k57_open {w : World} {x : S57} {cs : List Value} (h : k57.K w x cs) : ∃ A2 c2, cs = [.int .i64 x.f0, .string x.f1, .slice A2 x.f2.length c2] ∧ x.f2.length ≤ c2 ∧ Kd.string.C w A2 x.f2.length x.f2 := by
  obtain ⟨_, _, rfl, rfl, ⟨_, _, rfl, rfl, ⟨A2, c2, rfl, l2, g2⟩⟩⟩ := h
  exact ⟨A2, c2, rfl, l2, g2⟩
theorem k57_mkM (w : World) (base : Nat) (ok : Nat → Prop) (x : S57) {v2 : Value} (g2 : Kd.string.R 9 w base ok v2 x.f2) : k57.M w base ok x [.int .i64 x.f0, .string x.f1, v2] := ⟨[.int .i64 x.f0], [.string x.f1, v2], rfl, rfl, ⟨[.string x.f1], [v2], rfl, rfl, ⟨v2, rfl, g2⟩⟩⟩
def rd_T57 (xs : List S57) (i : Int) : S57 := xs.getD i.toNat z57
theorem at_T57 {w : World} {A : Option Addr} {n : Nat} {xs : List S57} (h : Kd.C k57 w A n xs) (i : Int) (h0 : 0 ≤ i) (h1 : i < n) : ∃ ad A2 c2, A = some ad ∧ w.cell? (ad.add (i.toNat * 3)) = some (.int .i64 (rd_T57 xs i).f0) ∧ w.cell? ⟨(ad.add (i.toNat * 3)).block, (ad.add (i.toNat * 3)).off + 1, none⟩ = some (.string (rd_T57 xs i).f1) ∧ w.cell? ⟨(ad.add (i.toNat * 3)).block, (ad.add (i.toNat * 3)).off + 2, none⟩ = some (.slice A2 (rd_T57 xs i).f2.length c2) ∧ (rd_T57 xs i).f2.length ≤ c2 ∧ Kd.string.C w A2 (rd_T57 xs i).f2.length (rd_T57 xs i).f2 := by
  obtain ⟨ad, c, e, _, hK, hc0⟩ := Kd.C_get h z57 i h0 h1
  have hc : ∀ j u, c[j]? = some u → w.cell? (ad.add (i.toNat * 3 + j)) = some u := hc0
  obtain ⟨A2, c2, rfl, l2, g2⟩ := k57_open hK
  exact ⟨ad, A2, c2, e, hc 0 _ rfl, by rw [← add_field _ _ 1 (by omega)]; exact hc 1 _ rfl, by rw [← add_field _ _ 2 (by omega)]; exact hc 2 _ rfl, l2, g2⟩

def rd_L7 (xs : List (List S57)) (i : Int) : (List S57) := xs.getD i.toNat ([] : List S57)
end Go.Proofs.YtphnnbbgcnilgaaDoor.GFnListFormat
