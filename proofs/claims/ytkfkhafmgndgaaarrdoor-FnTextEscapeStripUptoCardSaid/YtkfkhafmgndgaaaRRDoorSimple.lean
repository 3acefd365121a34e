/-
  Proved: what spec.TxSimple returns, as a plain function over the text's runes. Conditions: none.
-/
import Derived.Test.YtkfkhafmgndgaaaRRDoorGKx1
import Derived.Test.YtkfkhafmgndgaaaRRDoorStrip
namespace Go.Proofs.YtkfkhafmgndgaaaRRDoor.Simple
open Go.RowKit Go.Proofs.YtkfkhafmgndgaaaRRDoorW.PrintWords Go.Proofs.YtkfkhafmgndgaaaRRDoor.GK
set_option linter.unusedVariables false

theorem drawn_heap {w w1 : World} (h : Drawn0 w w1) : w1.heap = w.heap := by
  obtain ⟨⟨n, rfl⟩⟩ := h
  rfl
def known (r : Int) : Bool := (spec_TxKnown.f r).getD false
theorem wide_some (r : Int) : ∃ b, spec_TxWide.f r = some b := by
  unfold spec_TxWide.f
  repeat' split
  all_goals exact ⟨_, rfl⟩
theorem boxed_some (r : Int) : ∃ b, spec_TxBoxed.f r = some b := by
  unfold spec_TxBoxed.f
  split
  all_goals exact ⟨_, rfl⟩
theorem known_some (r : Int) : spec_TxKnown.f r = some (known r) := by
  obtain ⟨a, ha⟩ := wide_some r
  obtain ⟨b, hb⟩ := boxed_some r
  unfold known
  have : ∃ c, spec_TxKnown.f r = some c := by
    unfold spec_TxKnown.f
    rw [ha, hb]
    simp only [Option.bind_some]
    repeat' split
    all_goals exact ⟨_, rfl⟩
  obtain ⟨c, hc⟩ := this
  rw [hc]; rfl
def simpleFrom (s : ByteArray) (lines : Bool) : Nat → Nat → Bool
  | 0, _ => true
  | fuel + 1, pos => if pos < s.size then
      (if known (Utf8.decode s pos).1 = true ∨ (lines = true ∧ (Utf8.decode s pos).1 = 10) then simpleFrom s lines fuel (pos + (Utf8.decode s pos).2) else false) else true
def simple (s : ByteArray) (lines : Bool) : Bool := simpleFrom s lines s.size 0

set_option maxHeartbeats 4000000 in
set_option maxRecDepth 1000000 in
theorem simple_walk (s : ByteArray) (lines : Bool) (w : World) :
    Calls Tryd.prog 27 #[.string s, .bool lines] w fun e w' => e = .returned (.bool (simple s lines)) ∧ Below w.heap.size w w' := by
  go_enter Tryd.func27, Tryd.ntmps27
  go_wp2
  go_loopw [6] (fun _ wr => ∃ (pos fuel : Nat), wr.heap[w.heap.size]? = some (.stringIter s pos) ∧ Below w.heap.size w wr ∧ simpleFrom s lines fuel pos = simple s lines ∧ s.size ≤ pos + fuel) (fun _ wr => s.size - wr.iterPos w.heap.size)
  case atStart =>
    refine ⟨0, s.size, ?_, (Below.refl _ w).alloc (Nat.le_refl _) _, rfl, by omega⟩
    have := World.iter_heap w s 0
    simpa using this
  case round =>
    obtain ⟨pos, fuel, hit, hbw, hacc, hfu⟩ := hrel
    by_cases hp : pos < s.size
    · have hnx : ∀ ty, (Instr.next (.pointer (some ⟨w.heap.size, 0, none⟩)) true ty).run Tryd.prog wr = _ := fun ty => Lib.run_next_any_at wr w.heap.size s pos ty hit hp
      have hwd := Strip.width_pos s pos hp
      have hd1 := decode_le s pos
      have hit2 := Lib.iterAt_heap wr w.heap.size s pos (pos + (Utf8.decode s pos).2) hit
      have hbw2 := Lib.below_iterAt hbw (k := w.heap.size) (Nat.le_refl _) s (pos + (Utf8.decode s pos).2)
      obtain ⟨f, rfl⟩ : ∃ f, fuel = f + 1 := ⟨fuel - 1, by omega⟩
      obtain ⟨r, hr⟩ : ∃ r, r = (Utf8.decode s pos).1 := ⟨_, rfl⟩
      obtain ⟨n, hn⟩ : ∃ n, n = (Utf8.decode s pos).2 := ⟨_, rfl⟩
      simp only [simpleFrom, if_pos hp] at hacc
      rw [← hr, ← hn] at hacc
      rw [← hr, ← hn] at hnx
      rw [← hr] at hd1
      rw [← hn] at hwd hit2 hbw2
      have HP := Aside0.mk hit
      clear hr hn hit hbw
      have C := fun w => Aside0.mk (spec_TxKnown.calls (r : Int) (known r) w (known_some r))
      cases hk : known (r : Int)
      · rw [hk] at C
        cases lines
        · have hres : simple s false = false := by rw [← hacc]; simp [hk]
          have HR := Aside0.mk hres
          clear hres hacc
          go_wp2_with (go_at_call 34; refine (C _).out.mono ?_; rintro e W1 ⟨rfl, hdr⟩; have HD := Aside0.mk hdr; clear hdr)
          go_ret
          exact ⟨by rw [HR.out]; rfl, hbw2.trans (HD.out.below.mono hbw2.size)⟩
        · by_cases h10 : r = 10
          · have HA : Aside0 (simpleFrom s true f (pos + n) = simple s true) := ⟨by rw [← hacc]; simp [h10]⟩
            subst h10
            clear hacc
            go_wp2_with (go_at_call 34; refine (C _).out.mono ?_; rintro e W1 ⟨rfl, hdr⟩; have HD := Aside0.mk hdr; clear hdr)
            go_roundw
            case rel => exact ⟨pos + n, f, by rw [drawn_heap HD.out]; exact hit2, hbw2.trans (HD.out.below.mono hbw2.size), HA.out, by omega⟩
            case measure => simp only [World.iterPos, drawn_heap HD.out, hit2, HP.out]; omega
          · have h10' : ¬ (r : Int) = 10 := by omega
            have hb10 : ((r : Int) == 10) = false := by simpa using h10'
            have hres : simple s true = false := by rw [← hacc]; simp [hk, h10]
            have HR := Aside0.mk hres
            clear hres hacc
            go_wp2_with (go_at_call 34; refine (C _).out.mono ?_; rintro e W1 ⟨rfl, hdr⟩; have HD := Aside0.mk hdr; clear hdr)
            go_ret
            exact ⟨by rw [HR.out]; rfl, hbw2.trans (HD.out.below.mono hbw2.size)⟩
      · rw [hk] at C
        have HA : Aside0 (simpleFrom s lines f (pos + n) = simple s lines) := ⟨by rw [← hacc]; simp [hk]⟩
        clear hacc
        go_wp2_with (go_at_call 34; refine (C _).out.mono ?_; rintro e W1 ⟨rfl, hdr⟩; have HD := Aside0.mk hdr; clear hdr)
        go_roundw
        case rel => exact ⟨pos + n, f, by rw [drawn_heap HD.out]; exact hit2, hbw2.trans (HD.out.below.mono hbw2.size), HA.out, by omega⟩
        case measure => simp only [World.iterPos, drawn_heap HD.out, hit2, HP.out]; omega
    · have hnx : ∀ ty, (Instr.next (.pointer (some ⟨w.heap.size, 0, none⟩)) true ty).run Tryd.prog wr = _ := fun ty => Lib.run_next_end_at wr w.heap.size s pos ty hit hp
      have hlast : simple s lines = true := by
        rw [← hacc]
        cases fuel with
        | zero => rfl
        | succ f => simp [simpleFrom, hp]
      have HL := Aside0.mk hlast
      clear hlast hacc
      go_wp2
      go_ret
      exact ⟨by rw [HL.out]; rfl, hbw⟩
end Go.Proofs.YtkfkhafmgndgaaaRRDoor.Simple
