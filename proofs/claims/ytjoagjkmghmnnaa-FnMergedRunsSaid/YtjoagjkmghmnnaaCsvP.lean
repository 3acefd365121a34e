/-
  Proved: the row of CSV as a plain function over bytes, and how long it can be. Conditions: none.
-/
import Derived.Test.YtjoagjkmghmnnaaAny
import Derived.Test.YtjoagjkmghmnnaaItoaAll
namespace Go.Proofs.Ytjoagjkmghmnnaa.CsvP
open Go.Proofs.Ytjoagjkmghmnnaa.Common Go.Proofs.Ytjoagjkmghmnnaa.AnyOf Go.Proofs.Ytjoagjkmghmnnaa.ItoaAll
set_option linter.unusedVariables false

def risky (c : UInt8) : Bool := c = 61 || c = 43 || c = 45 || c = 64 || c = 9 || c = 13
def prot (p : Bool) : List UInt8 → List UInt8
  | [] => []
  | c :: t => if p = true ∧ risky c = true then 39 :: c :: t else c :: t
def dup (s : List UInt8) : List UInt8 := s.flatMap fun d => if d = 34 then [34, 34] else [d]
def special (s : List UInt8) : Bool := anyIn s [34, 44, 10]
def fld (p : Bool) (s : List UInt8) : List UInt8 := if special (prot p s) = true then 34 :: (dup (prot p s) ++ [34]) else prot p s
def pre (index : Bool) (number : Int) (i : Nat) : List UInt8 := if i = 0 then (if index = true then itoaL number ++ [44] else []) else [44]
def part (p index : Bool) (number : Int) (cells : List ByteArray) (k : Nat) : List UInt8 := (List.range k).flatMap fun i => pre index number i ++ fld p (cells.getD i ByteArray.empty).data.toList
def row (p index : Bool) (number : Int) (cells : List ByteArray) (columns : Int) : List UInt8 := part p index number cells cells.length ++ List.replicate (columns.toNat - cells.length) 44
theorem part_succ (p index : Bool) (number : Int) (cells : List ByteArray) (k : Nat) (x : ByteArray) (hx : cells[k]? = some x) :
    part p index number cells (k + 1) = part p index number cells k ++ (pre index number k ++ fld p x.data.toList) := by
  unfold part
  rw [List.range_succ, List.flatMap_append]
  simp [List.getD_eq_getElem?_getD, hx]
theorem dup_len : ∀ s : List UInt8, (dup s).length ≤ 2 * s.length
  | [] => by simp [dup]
  | c :: t => by
    have ih := dup_len t
    unfold dup at ih ⊢
    rw [List.flatMap_cons, List.length_append, List.length_cons]
    split <;> simp only [List.length_cons, List.length_nil] <;> omega
theorem prot_len (p : Bool) (s : List UInt8) : (prot p s).length ≤ s.length + 1 := by
  cases s with
  | nil => simp [prot]
  | cons c t => rw [prot]; split <;> simp
theorem fld_len (p : Bool) (s : List UInt8) : (fld p s).length ≤ 2 * s.length + 4 := by
  unfold fld
  have h1 := prot_len p s
  have h2 := dup_len (prot p s)
  split
  · simp; omega
  · omega
theorem pre_len (index : Bool) (number : Int) (h0 : -9223372036854775808 ≤ number) (h1 : number ≤ 9223372036854775807) (i : Nat) : (pre index number i).length ≤ 22 := by
  have := itoaL_len number h0 h1
  unfold pre
  split
  · split
    · simp; omega
    · simp
  · simp
theorem part_len (p index : Bool) (number : Int) (h0 : -9223372036854775808 ≤ number) (h1 : number ≤ 9223372036854775807) (cells : List ByteArray) (hc : ∀ x ∈ cells, x.size ≤ 2000) : ∀ k : Nat, k ≤ cells.length → (part p index number cells k).length ≤ 5000 * k
  | 0, _ => by simp [part]
  | k + 1, hk => by
    have ih := part_len p index number h0 h1 cells hc k (by omega)
    have hx : cells[k]? = some cells[k] := List.getElem?_eq_getElem (by omega)
    rw [part_succ p index number cells k _ hx]
    have h2 := pre_len index number h0 h1 k
    have h3 := fld_len p cells[k].data.toList
    have h4 := hc _ (List.getElem_mem (show k < cells.length by omega))
    rw [size_l] at h3
    simp only [List.length_append]
    omega
end Go.Proofs.Ytjoagjkmghmnnaa.CsvP
