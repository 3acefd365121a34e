/-
  Proved: what spec.TxWidth and spec.TxTimes return, as plain functions. Conditions: texts of at most 1000000 bytes, few times.
-/
import Derived.Test.YtnjehpjkanfnnaaDoorLstN
namespace Go.Proofs.YtnjehpjkanfnnaaDoor.BkW
open Go.RowKit Go.Proofs.YtnjehpjkanfnnaaDoorW.PrintWords Go.Proofs.YtnjehpjkanfnnaaDoor.GEK Go.Proofs.YtnjehpjkanfnnaaDoor.LstN Go.Proofs.YtnjehpjkanfnnaaDoor.Common
set_option linter.unusedVariables false
set_option linter.unusedSimpArgs false

def wide (r : Int) : Bool := (spec_TxWide.f r).getD false
theorem wide_is (r : Int) : spec_TxWide.f r = some (wide r) := by
  obtain ⟨b, hb⟩ := wide_some r
  unfold wide
  rw [hb]; rfl
def cols (r : Int) : Nat := if wide r = true then 2 else 1
theorem cols_some (r : Int) : spec_TxColumns.f r = some ((cols r : Nat) : Int) := by
  unfold spec_TxColumns.f cols
  rw [wide_is]
  cases wide r <;> rfl
theorem cols_le (r : Int) : 1 ≤ cols r ∧ cols r ≤ 2 := by
  unfold cols
  split <;> omega
def widthFrom (s : ByteArray) : Nat → Nat → Nat
  | 0, _ => 0
  | f + 1, pos => if pos < s.size then (if (Utf8.decode s pos).1 = 10 then 0 else cols (Utf8.decode s pos).1) + widthFrom s f (pos + (Utf8.decode s pos).2) else 0
def width (s : ByteArray) : Nat := widthFrom s s.size 0
set_option maxHeartbeats 4000000 in
set_option maxRecDepth 1000000 in
theorem width_walk (s : ByteArray) (hsz : s.size ≤ 1000000) (w : World) :
    Calls Tryd.prog 11 #[.string s] w fun e w' => e = .returned (.int .i64 ((width s : Nat) : Int)) ∧ Below w.heap.size w w' := by
  go_enter Tryd.func11, Tryd.ntmps11
  go_wp2
  go_loopw [3, 5] (fun v _ wr => ∃ (pos fuel n : Nat), Value.int .i64 (n : Int) = v ∧ n ≤ 2 * pos ∧ pos ≤ s.size + 4 ∧ wr.heap[w.heap.size]? = some (.stringIter s pos) ∧ Below w.heap.size w wr ∧ Aside0 (n + widthFrom s fuel pos = width s) ∧ s.size ≤ pos + fuel) (fun _ _ wr => s.size - wr.iterPos w.heap.size)
  case atStart =>
    refine ⟨0, s.size, 0, rfl, by omega, by omega, ?_, (Below.refl _ w).alloc (Nat.le_refl _) _, Aside0.mk (by simp [width]), by omega⟩
    have := World.iter_heap w s 0
    simpa using this
  case round =>
    obtain ⟨pos, fuel, n, rfl, hn1, hps, hit, hbw, hacc, hfu⟩ := hrel
    by_cases hp : pos < s.size
    · have hnx : ∀ ty, (Instr.next (.pointer (some ⟨w.heap.size, 0, none⟩)) true ty).run Tryd.prog wr = _ := fun ty => Lib.run_next_any_at wr w.heap.size s pos ty hit hp
      have hwd := width_pos s pos hp
      have hd1 := decode_le s pos
      have hd2 : (Utf8.decode s pos).2 ≤ 4 := by
        rw [Lib.decode_N]
        rcases Lib.decodeN_shape (s.data.toList.length - pos) (s.data.toList.getD pos 0).toNat (s.data.toList.getD (pos + 1) 0).toNat (s.data.toList.getD (pos + 2) 0).toNat (s.data.toList.getD (pos + 3) 0).toNat with ⟨_, e⟩ | ⟨_, _, _, _, e⟩ | ⟨_, _, _, _, _, _, e⟩ | ⟨_, _, _, _, _, _, _, e⟩ | e <;> rw [e] <;> simp
      have hit2 := Lib.iterAt_heap wr w.heap.size s pos (pos + (Utf8.decode s pos).2) hit
      have hbw2 := Lib.below_iterAt hbw (k := w.heap.size) (Nat.le_refl _) s (pos + (Utf8.decode s pos).2)
      obtain ⟨f, rfl⟩ : ∃ f, fuel = f + 1 := ⟨fuel - 1, by omega⟩
      obtain ⟨r, hr⟩ : ∃ r, r = (Utf8.decode s pos).1 := ⟨_, rfl⟩
      obtain ⟨m, hm⟩ : ∃ m, m = (Utf8.decode s pos).2 := ⟨_, rfl⟩
      have hac := hacc.out
      simp only [widthFrom, if_pos hp] at hac
      rw [← hr, ← hm] at hac
      rw [← hr, ← hm] at hnx
      rw [← hr] at hd1
      rw [← hm] at hwd hit2 hbw2 hd2
      have HP := Aside0.mk hit
      clear hr hm hit hbw hacc
      by_cases h10 : r = 10
      · subst h10
        rw [if_pos rfl] at hac
        have HA := Aside0.mk hac
        clear hac
        go_wp2
        go_roundw
        case rel => exact ⟨pos + m, f, n, rfl, by omega, by omega, hit2, hbw2, Aside0.mk (by have := HA.out; omega), by omega⟩
        case measure => simp only [World.iterPos, hit2, HP.out]; omega
      · rw [if_neg h10] at hac
        have h10' : ¬ (r : Int) = 10 := by omega
        have hb10 : ((r : Int) == 10) = false := by simpa using h10'
        have hb11 : ((r : Int) != 10) = true := by simpa using h10'
        have C := fun w => Aside0.mk (spec_TxColumns.calls (r : Int) ((cols r : Nat) : Int) w (cols_some r))
        have hc := cols_le (r : Int)
        have HA := Aside0.mk hac
        clear hac
        generalize cols (r : Int) = c at *
        have hwn : wrap64 ((n : Int) + (c : Int)) = ((n + c : Nat) : Int) := by rw [w64 _ (by omega) (by omega)]; omega
        go_wp2_with (go_at_call 14; refine (C _).out.mono ?_; rintro e W1 ⟨rfl, hdr⟩; have HD := Aside0.mk hdr; clear hdr)
        go_roundw
        case rel => exact ⟨pos + m, f, n + c, by go_num, by omega, by omega, by rw [drawn_heap HD.out]; exact hit2, hbw2.trans (HD.out.below.mono hbw2.size), Aside0.mk (by have := HA.out; omega), by omega⟩
        case measure => simp only [World.iterPos, drawn_heap HD.out, hit2, HP.out]; omega
    · have hnx : ∀ ty, (Instr.next (.pointer (some ⟨w.heap.size, 0, none⟩)) true ty).run Tryd.prog wr = _ := fun ty => Lib.run_next_end_at wr w.heap.size s pos ty hit hp
      have hlast : n = width s := by
        rw [← hacc.out]
        cases fuel with
        | zero => rfl
        | succ f => simp [widthFrom, hp]
      have HL := Aside0.mk hlast
      clear hlast hacc
      go_wp2
      go_ret
      exact ⟨by rw [HL.out]; rfl, hbw⟩
end Go.Proofs.YtnjehpjkanfnnaaDoor.BkW
