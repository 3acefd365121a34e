/-
  Proved: what spec.TxSimple returns, as a plain function over the text's runes. Conditions: none.
-/
import Derived.Test.YtnjehpjkanfnnaaDoorGEKx1
import Derived.Test.YtnjehpjkanfnnaaDoorCommon
import Derived.WalkKit
import Derived.BigCall
import Derived.Deep.LoopGhost
import Derived.Lib.OthersKept
import Derived.Lib.RuneBytes
import Derived.Lib.MapLaws
import Derived.Lib.TrimUEq
namespace Go.Proofs.YtnjehpjkanfnnaaDoor.LstN
open Go.RowKit Go.Proofs.YtnjehpjkanfnnaaDoorW.PrintWords Go.Proofs.YtnjehpjkanfnnaaDoor.GEK
set_option linter.unusedVariables false

theorem width_pos (s : ByteArray) (pos : Nat) (h : pos < s.size) : 1 ≤ (Utf8.decode s pos).2 := by
  by_cases ha : (s[pos]'h).toNat < 128
  · rw [decode_ascii s pos h ha]
    exact Nat.le_refl _
  · exact (decode_high s pos h (by omega)).2
theorem drawn_heap {w w1 : World} (h : Drawn0 w w1) : w1.heap = w.heap := by
  obtain ⟨⟨n, rfl⟩⟩ := h
  rfl
def known (r : Int) : Bool := (spec_TxKnown.f r).getD false
theorem wide_some (r : Int) : ∃ b, spec_TxWide.f r = some b := by
  unfold spec_TxWide.f
  repeat' split
  all_goals exact ⟨_, rfl⟩
theorem boxed_some (r : Int) : ∃ b, spec_TxBoxed.f r = some b := by
  unfold spec_TxBoxed.f
  split
  all_goals exact ⟨_, rfl⟩
theorem known_some (r : Int) : spec_TxKnown.f r = some (known r) := by
  obtain ⟨a, ha⟩ := wide_some r
  obtain ⟨b, hb⟩ := boxed_some r
  unfold known
  have : ∃ c, spec_TxKnown.f r = some c := by
    unfold spec_TxKnown.f
    rw [ha, hb]
    simp only [Option.bind_some]
    repeat' split
    all_goals exact ⟨_, rfl⟩
  obtain ⟨c, hc⟩ := this
  rw [hc]; rfl
def simpleFrom (s : ByteArray) (lines : Bool) : Nat → Nat → Bool
  | 0, _ => true
  | fuel + 1, pos => if pos < s.size then
      (if known (Utf8.decode s pos).1 = true ∨ (lines = true ∧ (Utf8.decode s pos).1 = 10) then simpleFrom s lines fuel (pos + (Utf8.decode s pos).2) else false) else true
def simple (s : ByteArray) (lines : Bool) : Bool := simpleFrom s lines s.size 0

set_option maxHeartbeats 4000000 in
set_option maxRecDepth 1000000 in
theorem simple_walk (s : ByteArray) (lines : Bool) (w : World) :
    Calls Tryd.prog 8 #[.string s, .bool lines] w fun e w' => e = .returned (.bool (simple s lines)) ∧ Below w.heap.size w w' := by
  go_enter Tryd.func8, Tryd.ntmps8
  go_wp2
  go_loopw [6] (fun _ wr => ∃ (pos fuel : Nat), wr.heap[w.heap.size]? = some (.stringIter s pos) ∧ Below w.heap.size w wr ∧ simpleFrom s lines fuel pos = simple s lines ∧ s.size ≤ pos + fuel) (fun _ wr => s.size - wr.iterPos w.heap.size)
  case atStart =>
    refine ⟨0, s.size, ?_, (Below.refl _ w).alloc (Nat.le_refl _) _, rfl, by omega⟩
    have := World.iter_heap w s 0
    simpa using this
  case round =>
    obtain ⟨pos, fuel, hit, hbw, hacc, hfu⟩ := hrel
    by_cases hp : pos < s.size
    · have hnx : ∀ ty, (Instr.next (.pointer (some ⟨w.heap.size, 0, none⟩)) true ty).run Tryd.prog wr = _ := fun ty => Lib.run_next_any_at wr w.heap.size s pos ty hit hp
      have hwd := width_pos s pos hp
      have hd1 := decode_le s pos
      have hit2 := Lib.iterAt_heap wr w.heap.size s pos (pos + (Utf8.decode s pos).2) hit
      have hbw2 := Lib.below_iterAt hbw (k := w.heap.size) (Nat.le_refl _) s (pos + (Utf8.decode s pos).2)
      obtain ⟨f, rfl⟩ : ∃ f, fuel = f + 1 := ⟨fuel - 1, by omega⟩
      obtain ⟨r, hr⟩ : ∃ r, r = (Utf8.decode s pos).1 := ⟨_, rfl⟩
      obtain ⟨n, hn⟩ : ∃ n, n = (Utf8.decode s pos).2 := ⟨_, rfl⟩
      simp only [simpleFrom, if_pos hp] at hacc
      rw [← hr, ← hn] at hacc
      rw [← hr, ← hn] at hnx
      rw [← hr] at hd1
      rw [← hn] at hwd hit2 hbw2
      have HP := Aside0.mk hit
      clear hr hn hit hbw
      have C := fun w => Aside0.mk (spec_TxKnown.calls (r : Int) (known r) w (known_some r))
      cases hk : known (r : Int)
      · rw [hk] at C
        cases lines
        · have hres : simple s false = false := by rw [← hacc]; simp [hk]
          have HR := Aside0.mk hres
          clear hres hacc
          go_wp2_with (go_at_call 13; refine (C _).out.mono ?_; rintro e W1 ⟨rfl, hdr⟩; have HD := Aside0.mk hdr; clear hdr)
          go_ret
          exact ⟨by rw [HR.out]; rfl, hbw2.trans (HD.out.below.mono hbw2.size)⟩
        · by_cases h10 : r = 10
          · have HA : Aside0 (simpleFrom s true f (pos + n) = simple s true) := ⟨by rw [← hacc]; simp [h10]⟩
            subst h10
            clear hacc
            go_wp2_with (go_at_call 13; refine (C _).out.mono ?_; rintro e W1 ⟨rfl, hdr⟩; have HD := Aside0.mk hdr; clear hdr)
            go_roundw
            case rel => exact ⟨pos + n, f, by rw [drawn_heap HD.out]; exact hit2, hbw2.trans (HD.out.below.mono hbw2.size), HA.out, by omega⟩
            case measure => simp only [World.iterPos, drawn_heap HD.out, hit2, HP.out]; omega
          · have h10' : ¬ (r : Int) = 10 := by omega
            have hb10 : ((r : Int) == 10) = false := by simpa using h10'
            have hres : simple s true = false := by rw [← hacc]; simp [hk, h10]
            have HR := Aside0.mk hres
            clear hres hacc
            go_wp2_with (go_at_call 13; refine (C _).out.mono ?_; rintro e W1 ⟨rfl, hdr⟩; have HD := Aside0.mk hdr; clear hdr)
            go_ret
            exact ⟨by rw [HR.out]; rfl, hbw2.trans (HD.out.below.mono hbw2.size)⟩
      · rw [hk] at C
        have HA : Aside0 (simpleFrom s lines f (pos + n) = simple s lines) := ⟨by rw [← hacc]; simp [hk]⟩
        clear hacc
        go_wp2_with (go_at_call 13; refine (C _).out.mono ?_; rintro e W1 ⟨rfl, hdr⟩; have HD := Aside0.mk hdr; clear hdr)
        go_roundw
        case rel => exact ⟨pos + n, f, by rw [drawn_heap HD.out]; exact hit2, hbw2.trans (HD.out.below.mono hbw2.size), HA.out, by omega⟩
        case measure => simp only [World.iterPos, drawn_heap HD.out, hit2, HP.out]; omega
    · have hnx : ∀ ty, (Instr.next (.pointer (some ⟨w.heap.size, 0, none⟩)) true ty).run Tryd.prog wr = _ := fun ty => Lib.run_next_end_at wr w.heap.size s pos ty hit hp
      have hlast : simple s lines = true := by
        rw [← hacc]
        cases fuel with
        | zero => rfl
        | succ f => simp [simpleFrom, hp]
      have HL := Aside0.mk hlast
      clear hlast hacc
      go_wp2
      go_ret
      exact ⟨by rw [HL.out]; rfl, hbw⟩
theorem known_low : ∀ r : Fin 32, known (r.val : Int) = false := by decide +kernel
theorem known_bad : known 65533 = false := by decide +kernel
theorem mem_pos (l : List UInt8) (c : UInt8) (n : Nat) (h : c ∈ l) : (∃ i, i < n ∧ c = l.getD i 0) ∨ c ∈ l.drop n := by
  obtain ⟨i, hi, rfl⟩ := List.getElem_of_mem h
  by_cases hn : i < n
  · exact .inl ⟨i, hn, by simp [List.getD_eq_getElem?_getD, List.getElem?_eq_getElem hi]⟩
  · refine .inr (List.mem_iff_getElem.2 ⟨i - n, by simp; omega, ?_⟩)
    rw [List.getElem_drop]
    congr 1
    omega
def okc (c : UInt8) : Prop := c ≠ 9 ∧ c ≠ 10 ∧ c ≠ 13
theorem okc_of (c : UInt8) (h : 32 ≤ c.toNat) : okc c := by
  refine ⟨?_, ?_, ?_⟩ <;> rintro rfl <;> revert h <;> decide
theorem good_from (s : ByteArray) (fuel : Nat) : ∀ pos, s.size ≤ pos + fuel → simpleFrom s false fuel pos = true → ∀ c ∈ s.data.toList.drop pos, okc c := by
  induction fuel with
  | zero =>
    intro pos hp _ c hc
    rw [List.drop_eq_nil_of_le (by simp; omega)] at hc
    cases hc
  | succ f ih =>
    intro pos hp h c hc
    by_cases hlt : pos < s.size
    · rw [simpleFrom, if_pos hlt] at h
      have hw := width_pos s pos hlt
      have hd := Lib.decodeL_drop s pos
      obtain ⟨l, hl⟩ : ∃ l, l = s.data.toList.drop pos := ⟨_, rfl⟩
      have hdd : ∀ n, l.drop n = s.data.toList.drop (pos + n) := fun n => by rw [hl, List.drop_drop]
      rw [← hl] at hd hc
      rw [← hd] at h hw
      simp only [Bool.false_eq_true, false_and, or_false] at h
      by_cases hk : known ((Lib.decodeL l).1 : Int) = true
      · rw [if_pos hk] at h
        have hrest := ih _ (by omega) h
        rw [← hdd] at hrest
        rcases mem_pos l c (Lib.decodeL l).2 hc with ⟨i, hi, rfl⟩ | hm
        · apply okc_of
          rw [Lib.decodeL_N] at hi hk
          rcases Lib.decodeN_shape l.length (l.getD 0 0).toNat (l.getD 1 0).toNat (l.getD 2 0).toNat (l.getD 3 0).toNat with ⟨c1, e⟩ | ⟨c1, c2, c3, cv, e⟩ | ⟨c1, c2, c3, c4, cv, cs, e⟩ | ⟨c1, c2, c3, c4, c5, cv, cw, e⟩ | e
          · rw [e] at hi hk
            have hi0 : i = 0 := by simp at hi; omega
            subst hi0
            rcases Nat.lt_or_ge (l.getD 0 0).toNat 32 with h32 | h32
            · rw [known_low ⟨_, h32⟩] at hk
              cases hk
            · exact h32
          · rw [e] at hi
            have : i = 0 ∨ i = 1 := by simp at hi; omega
            rcases this with rfl | rfl <;> omega
          · rw [e] at hi
            have : i = 0 ∨ i = 1 ∨ i = 2 := by simp at hi; omega
            rcases this with rfl | rfl | rfl <;> omega
          · rw [e] at hi
            have : i = 0 ∨ i = 1 ∨ i = 2 ∨ i = 3 := by simp at hi; omega
            rcases this with rfl | rfl | rfl | rfl <;> omega
          · rw [e] at hk
            exact absurd hk (by rw [show ((65533 : Nat) : Int) = 65533 from rfl, known_bad]; decide)
        · exact hrest c hm
      · rw [if_neg hk] at h
        cases h
    · rw [List.drop_eq_nil_of_le (by simp; omega)] at hc
      cases hc
theorem simple_good (s : ByteArray) (h : simple s false = true) : ∀ c ∈ s.data.toList, okc c := by
  have := good_from s s.size 0 (by omega) h
  rwa [List.drop_zero] at this
end Go.Proofs.YtnjehpjkanfnnaaDoor.LstN
