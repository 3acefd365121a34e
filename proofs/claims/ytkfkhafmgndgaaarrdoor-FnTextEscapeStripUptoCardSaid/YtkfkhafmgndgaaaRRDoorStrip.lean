/-
  Proved: what text.StripEscape returns: the runes that stand outside of escape sequences, encoded. Conditions: at most 2^45 bytes.
-/
import Derived.Test.YtkfkhafmgndgaaaRRDoorShRune
import Derived.Test.YtkfkhafmgndgaaaRRDoorCommon
import Derived.WalkKit
import Derived.BigCall
import Derived.Deep.LoopGhost
import Derived.Lib.OthersKept
import Derived.Lib.RuneBytes
namespace Go.Proofs.YtkfkhafmgndgaaaRRDoor.Strip
open Go.RowKit Go.Proofs.YtkfkhafmgndgaaaRRDoorW.PrintWords
set_option linter.unusedVariables false

def stripFrom (s : ByteArray) : Nat → Nat → Bool → List UInt8
  | 0, _, _ => []
  | fuel + 1, pos, esc => if pos < s.size then
      (if (Utf8.decode s pos).1 = 27 then stripFrom s fuel (pos + (Utf8.decode s pos).2) true
       else if esc = true then stripFrom s fuel (pos + (Utf8.decode s pos).2) (decide ¬ (Utf8.decode s pos).1 = 109)
       else Lib.encodeRune (Utf8.decode s pos).1 ++ stripFrom s fuel (pos + (Utf8.decode s pos).2) false) else []
def strip (s : ByteArray) : List UInt8 := stripFrom s s.size 0 false

theorem width_pos (s : ByteArray) (pos : Nat) (h : pos < s.size) : 1 ≤ (Utf8.decode s pos).2 := by
  by_cases ha : (s[pos]'h).toNat < 128
  · rw [decode_ascii s pos h ha]
    exact Nat.le_refl _
  · exact (decode_high s pos h (by omega)).2
theorem stripFrom_end (s : ByteArray) (fuel pos : Nat) (esc : Bool) (h : ¬ pos < s.size) : stripFrom s fuel pos esc = [] := by
  cases fuel with
  | zero => rfl
  | succ f => simp [stripFrom, h]

set_option maxHeartbeats 4000000 in
set_option maxRecDepth 1000000 in
theorem strip_walk (s : ByteArray) (w : World) (hs : s.size ≤ 35184372088832) :
    Calls Tryd.prog 30 #[.string s] w fun e w' => e = .returned (.string ⟨(strip s).toArray⟩) ∧ Below w.heap.size w w' := by
  go_enter Tryd.func30, Tryd.ntmps30
  go_wp2
  go_loopw [4, 6] (fun e _ wr => ∃ (pos fuel : Nat) (esc : Bool) (acc : List UInt8), e = .bool esc ∧ Lib.IsBuilderF 54 5 w.heap.size w.heap.size (Lib.byteCells acc) wr ∧ wr.heap[w.heap.size + 1]? = some (.stringIter s pos) ∧ Below w.heap.size w wr ∧ acc ++ stripFrom s fuel pos esc = strip s ∧ s.size ≤ pos + fuel ∧ acc.length ≤ 4 * pos) (fun _ _ wr => s.size - wr.iterPos (w.heap.size + 1))
  case atStart =>
    refine ⟨0, s.size, false, [], rfl, (Lib.IsBuilderF.of (Lib.fresh_isBuilder 54 5 w)).alloc _, ?_, ((Below.refl _ w).alloc (Nat.le_refl _) _).alloc (by simp) _, rfl, by omega, by simp⟩
    have := World.iter_heap (w.alloc (.cells #[.pointer none, .slice none 0 0] 54)) s 0
    simpa using this
  case round =>
    obtain ⟨pos, fuel, esc, acc, rfl, hI, hit, hbw, hacc, hfu, hal⟩ := hrel
    have hsz : w.heap.size + 1 < wr.heap.size := (Array.getElem?_eq_some_iff.1 hit).1
    by_cases hp : pos < s.size
    · have hnx : ∀ ty, (Instr.next (.pointer (some ⟨w.heap.size + 1, 0, none⟩)) true ty).run Tryd.prog wr = _ := fun ty => Lib.run_next_any_at wr (w.heap.size + 1) s pos ty hit hp
      have hwd := width_pos s pos hp
      have hd1 := decode_le s pos
      have hI2 := hI.iterAt hit (pos + (Utf8.decode s pos).2)
      have hit2 := Lib.iterAt_heap wr (w.heap.size + 1) s pos (pos + (Utf8.decode s pos).2) hit
      have hbw2 := Lib.below_iterAt hbw (k := w.heap.size + 1) (by omega) s (pos + (Utf8.decode s pos).2)
      have hsz2 : w.heap.size ≤ (wr.iterAt (w.heap.size + 1) s (pos + (Utf8.decode s pos).2)).heap.size := by rw [Lib.iterAt_size]; omega
      obtain ⟨f, rfl⟩ : ∃ f, fuel = f + 1 := ⟨fuel - 1, by omega⟩
      obtain ⟨r, hr⟩ : ∃ r, r = (Utf8.decode s pos).1 := ⟨_, rfl⟩
      obtain ⟨n, hn⟩ : ∃ n, n = (Utf8.decode s pos).2 := ⟨_, rfl⟩
      simp only [stripFrom, if_pos hp] at hacc
      rw [← hr, ← hn] at hacc
      rw [← hr, ← hn] at hnx
      rw [← hr] at hd1
      rw [← hn] at hwd hI2 hit2 hbw2 hsz2
      have HA := Aside0.mk hacc
      have HP := Aside0.mk hit
      clear hr hn hacc hit hI hbw
      by_cases h27 : r = 27
      · subst h27
        go_wp2
        go_roundw
        case rel => exact ⟨pos + n, f, true, acc, rfl, hI2, hit2, hbw2, by have h := HA.out; simpa using h, by omega, by omega⟩
        case measure => simp only [World.iterPos, hit2, HP.out]; omega
      · have h27' : ¬ (r : Int) = 27 := by omega
        cases esc
        · go_wp2_with (go_at_call 44; refine (Tryd.Builder_WriteRune_k w.heap.size w.heap.size _ _ (by omega) (by omega) _ hI2 (by rw [Lib.byteCells_length]; omega) hsz2).mono ?_; rintro e W1 ⟨rfl, h1, b1, k1⟩)
          go_roundw
          case rel =>
            have hl4 := Lib.runeCells_le (r : Int)
            rw [Lib.runeCells_length] at hl4
            refine ⟨pos + n, f, false, acc ++ Lib.encodeRune r, rfl, ?_, k1.iter hit2 (by omega), hbw2.trans b1, ?_, by omega, by simp; omega⟩
            · rw [Lib.byteCells_append, Lib.byteCells_encodeRune]; exact Or.inr h1
            · rw [← HA.out, if_neg h27]; simp
          case measure => simp only [World.iterPos, k1.iter hit2 (by omega), HP.out]; omega
        · by_cases h109 : r = 109
          · subst h109
            go_wp2
            go_roundw
            case rel => exact ⟨pos + n, f, false, acc, rfl, hI2, hit2, hbw2, by have h := HA.out; simpa using h, by omega, by omega⟩
            case measure => simp only [World.iterPos, hit2, HP.out]; omega
          · have h109' : ¬ (r : Int) = 109 := by omega
            go_wp2
            go_roundw
            case rel => exact ⟨pos + n, f, true, acc, rfl, hI2, hit2, hbw2, by have h := HA.out; simpa [h27, h109] using h, by omega, by omega⟩
            case measure => simp only [World.iterPos, hit2, HP.out]; omega
    · have hnx : ∀ ty, (Instr.next (.pointer (some ⟨w.heap.size + 1, 0, none⟩)) true ty).run Tryd.prog wr = _ := fun ty => Lib.run_next_end_at wr (w.heap.size + 1) s pos ty hit hp
      have hlast : acc = strip s := by rw [← hacc, stripFrom_end s fuel pos esc hp, List.append_nil]
      have HL := Aside0.mk hlast
      clear hlast hacc
      go_wp2_with (go_at_call 42; refine (Tryd.Builder_String_any_k w.heap.size w.heap.size acc _ hI (by omega)).mono ?_; rintro e W1 ⟨rfl, _, b1, _⟩)
      go_ret
      exact ⟨by rw [HL.out]; rfl, hbw.trans b1⟩
end Go.Proofs.YtkfkhafmgndgaaaRRDoor.Strip
