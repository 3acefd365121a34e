/-
  Proved: contracts of impl.ListHTML, spec.TxSimple and spec.TxTimes in the print's form. Conditions: as the functions say.
-/
import Derived.Test.YtphnnbbgcnilgaaGEKx1
import Derived.Test.YtphnnbbgcnilgaaCommon
import Derived.WalkKit
import Derived.BigCall
import Derived.Deep.LoopGhost
import Derived.Lib.OthersKept
import Derived.Lib.RuneBytes
import Derived.Lib.MapLaws
import Derived.Lib.TrimUEq
import Derived.Test.YtphnnbbgcnilgaaGELx1
import Derived.Test.YtphnnbbgcnilgaaLstC
import Derived.Lib.Repeat
import Derived.Test.YtphnnbbgcnilgaaHtD
namespace Go.Proofs.Ytphnnbbgcnilgaa.LstN
open Go.RowKit Go.Proofs.YtphnnbbgcnilgaaW.PrintWords Go.Proofs.Ytphnnbbgcnilgaa.GEK
set_option linter.unusedVariables false

theorem width_pos (s : ByteArray) (pos : Nat) (h : pos < s.size) : 1 ≤ (Utf8.decode s pos).2 := by
  by_cases ha : (s[pos]'h).toNat < 128
  · rw [decode_ascii s pos h ha]
    exact Nat.le_refl _
  · exact (decode_high s pos h (by omega)).2
theorem drawn_heap {w w1 : World} (h : Drawn0 w w1) : w1.heap = w.heap := by
  obtain ⟨⟨n, rfl⟩⟩ := h
  rfl
def known (r : Int) : Bool := (spec_TxKnown.f r).getD false
theorem wide_some (r : Int) : ∃ b, spec_TxWide.f r = some b := by
  unfold spec_TxWide.f
  repeat' split
  all_goals exact ⟨_, rfl⟩
theorem boxed_some (r : Int) : ∃ b, spec_TxBoxed.f r = some b := by
  unfold spec_TxBoxed.f
  split
  all_goals exact ⟨_, rfl⟩
theorem known_some (r : Int) : spec_TxKnown.f r = some (known r) := by
  obtain ⟨a, ha⟩ := wide_some r
  obtain ⟨b, hb⟩ := boxed_some r
  unfold known
  have : ∃ c, spec_TxKnown.f r = some c := by
    unfold spec_TxKnown.f
    rw [ha, hb]
    simp only [Option.bind_some]
    repeat' split
    all_goals exact ⟨_, rfl⟩
  obtain ⟨c, hc⟩ := this
  rw [hc]; rfl
def simpleFrom (s : ByteArray) (lines : Bool) : Nat → Nat → Bool
  | 0, _ => true
  | fuel + 1, pos => if pos < s.size then
      (if known (Utf8.decode s pos).1 = true ∨ (lines = true ∧ (Utf8.decode s pos).1 = 10) then simpleFrom s lines fuel (pos + (Utf8.decode s pos).2) else false) else true
def simple (s : ByteArray) (lines : Bool) : Bool := simpleFrom s lines s.size 0

set_option maxHeartbeats 4000000 in
set_option maxRecDepth 1000000 in
theorem simple_walk (s : ByteArray) (lines : Bool) (w : World) :
    Calls Try.prog 19 #[.string s, .bool lines] w fun e w' => e = .returned (.bool (simple s lines)) ∧ Below w.heap.size w w' := by
  go_enter Try.func19, Try.ntmps19
  go_wp2
  go_loopw [6] (fun _ wr => ∃ (pos fuel : Nat), wr.heap[w.heap.size]? = some (.stringIter s pos) ∧ Below w.heap.size w wr ∧ simpleFrom s lines fuel pos = simple s lines ∧ s.size ≤ pos + fuel) (fun _ wr => s.size - wr.iterPos w.heap.size)
  case atStart =>
    refine ⟨0, s.size, ?_, (Below.refl _ w).alloc (Nat.le_refl _) _, rfl, by omega⟩
    have := World.iter_heap w s 0
    simpa using this
  case round =>
    obtain ⟨pos, fuel, hit, hbw, hacc, hfu⟩ := hrel
    by_cases hp : pos < s.size
    · have hnx : ∀ ty, (Instr.next (.pointer (some ⟨w.heap.size, 0, none⟩)) true ty).run Try.prog wr = _ := fun ty => Lib.run_next_any_at wr w.heap.size s pos ty hit hp
      have hwd := width_pos s pos hp
      have hd1 := decode_le s pos
      have hit2 := Lib.iterAt_heap wr w.heap.size s pos (pos + (Utf8.decode s pos).2) hit
      have hbw2 := Lib.below_iterAt hbw (k := w.heap.size) (Nat.le_refl _) s (pos + (Utf8.decode s pos).2)
      obtain ⟨f, rfl⟩ : ∃ f, fuel = f + 1 := ⟨fuel - 1, by omega⟩
      obtain ⟨r, hr⟩ : ∃ r, r = (Utf8.decode s pos).1 := ⟨_, rfl⟩
      obtain ⟨n, hn⟩ : ∃ n, n = (Utf8.decode s pos).2 := ⟨_, rfl⟩
      simp only [simpleFrom, if_pos hp] at hacc
      rw [← hr, ← hn] at hacc
      rw [← hr, ← hn] at hnx
      rw [← hr] at hd1
      rw [← hn] at hwd hit2 hbw2
      have HP := Aside0.mk hit
      clear hr hn hit hbw
      have C := fun w => Aside0.mk (spec_TxKnown.calls (r : Int) (known r) w (known_some r))
      cases hk : known (r : Int)
      · rw [hk] at C
        cases lines
        · have hres : simple s false = false := by rw [← hacc]; simp [hk]
          have HR := Aside0.mk hres
          clear hres hacc
          go_wp2_with (go_at_call 39; refine (C _).out.mono ?_; rintro e W1 ⟨rfl, hdr⟩; have HD := Aside0.mk hdr; clear hdr)
          go_ret
          exact ⟨by rw [HR.out]; rfl, hbw2.trans (HD.out.below.mono hbw2.size)⟩
        · by_cases h10 : r = 10
          · have HA : Aside0 (simpleFrom s true f (pos + n) = simple s true) := ⟨by rw [← hacc]; simp [h10]⟩
            subst h10
            clear hacc
            go_wp2_with (go_at_call 39; refine (C _).out.mono ?_; rintro e W1 ⟨rfl, hdr⟩; have HD := Aside0.mk hdr; clear hdr)
            go_roundw
            case rel => exact ⟨pos + n, f, by rw [drawn_heap HD.out]; exact hit2, hbw2.trans (HD.out.below.mono hbw2.size), HA.out, by omega⟩
            case measure => simp only [World.iterPos, drawn_heap HD.out, hit2, HP.out]; omega
          · have h10' : ¬ (r : Int) = 10 := by omega
            have hb10 : ((r : Int) == 10) = false := by simpa using h10'
            have hres : simple s true = false := by rw [← hacc]; simp [hk, h10]
            have HR := Aside0.mk hres
            clear hres hacc
            go_wp2_with (go_at_call 39; refine (C _).out.mono ?_; rintro e W1 ⟨rfl, hdr⟩; have HD := Aside0.mk hdr; clear hdr)
            go_ret
            exact ⟨by rw [HR.out]; rfl, hbw2.trans (HD.out.below.mono hbw2.size)⟩
      · rw [hk] at C
        have HA : Aside0 (simpleFrom s lines f (pos + n) = simple s lines) := ⟨by rw [← hacc]; simp [hk]⟩
        clear hacc
        go_wp2_with (go_at_call 39; refine (C _).out.mono ?_; rintro e W1 ⟨rfl, hdr⟩; have HD := Aside0.mk hdr; clear hdr)
        go_roundw
        case rel => exact ⟨pos + n, f, by rw [drawn_heap HD.out]; exact hit2, hbw2.trans (HD.out.below.mono hbw2.size), HA.out, by omega⟩
        case measure => simp only [World.iterPos, drawn_heap HD.out, hit2, HP.out]; omega
    · have hnx : ∀ ty, (Instr.next (.pointer (some ⟨w.heap.size, 0, none⟩)) true ty).run Try.prog wr = _ := fun ty => Lib.run_next_end_at wr w.heap.size s pos ty hit hp
      have hlast : simple s lines = true := by
        rw [← hacc]
        cases fuel with
        | zero => rfl
        | succ f => simp [simpleFrom, hp]
      have HL := Aside0.mk hlast
      clear hlast hacc
      go_wp2
      go_ret
      exact ⟨by rw [HL.out]; rfl, hbw⟩
theorem known_low : ∀ r : Fin 32, known (r.val : Int) = false := by decide +kernel
theorem known_bad : known 65533 = false := by decide +kernel
theorem mem_pos (l : List UInt8) (c : UInt8) (n : Nat) (h : c ∈ l) : (∃ i, i < n ∧ c = l.getD i 0) ∨ c ∈ l.drop n := by
  obtain ⟨i, hi, rfl⟩ := List.getElem_of_mem h
  by_cases hn : i < n
  · exact .inl ⟨i, hn, by simp [List.getD_eq_getElem?_getD, List.getElem?_eq_getElem hi]⟩
  · refine .inr (List.mem_iff_getElem.2 ⟨i - n, by simp; omega, ?_⟩)
    rw [List.getElem_drop]
    congr 1
    omega
def okc (c : UInt8) : Prop := c ≠ 9 ∧ c ≠ 10 ∧ c ≠ 13
theorem okc_of (c : UInt8) (h : 32 ≤ c.toNat) : okc c := by
  refine ⟨?_, ?_, ?_⟩ <;> rintro rfl <;> revert h <;> decide
theorem good_from (s : ByteArray) (fuel : Nat) : ∀ pos, s.size ≤ pos + fuel → simpleFrom s false fuel pos = true → ∀ c ∈ s.data.toList.drop pos, okc c := by
  induction fuel with
  | zero =>
    intro pos hp _ c hc
    rw [List.drop_eq_nil_of_le (by simp; omega)] at hc
    cases hc
  | succ f ih =>
    intro pos hp h c hc
    by_cases hlt : pos < s.size
    · rw [simpleFrom, if_pos hlt] at h
      have hw := width_pos s pos hlt
      have hd := Lib.decodeL_drop s pos
      obtain ⟨l, hl⟩ : ∃ l, l = s.data.toList.drop pos := ⟨_, rfl⟩
      have hdd : ∀ n, l.drop n = s.data.toList.drop (pos + n) := fun n => by rw [hl, List.drop_drop]
      rw [← hl] at hd hc
      rw [← hd] at h hw
      simp only [Bool.false_eq_true, false_and, or_false] at h
      by_cases hk : known ((Lib.decodeL l).1 : Int) = true
      · rw [if_pos hk] at h
        have hrest := ih _ (by omega) h
        rw [← hdd] at hrest
        rcases mem_pos l c (Lib.decodeL l).2 hc with ⟨i, hi, rfl⟩ | hm
        · apply okc_of
          rw [Lib.decodeL_N] at hi hk
          rcases Lib.decodeN_shape l.length (l.getD 0 0).toNat (l.getD 1 0).toNat (l.getD 2 0).toNat (l.getD 3 0).toNat with ⟨c1, e⟩ | ⟨c1, c2, c3, cv, e⟩ | ⟨c1, c2, c3, c4, cv, cs, e⟩ | ⟨c1, c2, c3, c4, c5, cv, cw, e⟩ | e
          · rw [e] at hi hk
            have hi0 : i = 0 := by simp at hi; omega
            subst hi0
            rcases Nat.lt_or_ge (l.getD 0 0).toNat 32 with h32 | h32
            · rw [known_low ⟨_, h32⟩] at hk
              cases hk
            · exact h32
          · rw [e] at hi
            have : i = 0 ∨ i = 1 := by simp at hi; omega
            rcases this with rfl | rfl <;> omega
          · rw [e] at hi
            have : i = 0 ∨ i = 1 ∨ i = 2 := by simp at hi; omega
            rcases this with rfl | rfl | rfl <;> omega
          · rw [e] at hi
            have : i = 0 ∨ i = 1 ∨ i = 2 ∨ i = 3 := by simp at hi; omega
            rcases this with rfl | rfl | rfl | rfl <;> omega
          · rw [e] at hk
            exact absurd hk (by rw [show ((65533 : Nat) : Int) = 65533 from rfl, known_bad]; decide)
        · exact hrest c hm
      · rw [if_neg hk] at h
        cases h
    · rw [List.drop_eq_nil_of_le (by simp; omega)] at hc
      cases hc
theorem simple_good (s : ByteArray) (h : simple s false = true) : ∀ c ∈ s.data.toList, okc c := by
  have := good_from s s.size 0 (by omega) h
  rwa [List.drop_zero] at this
end Go.Proofs.Ytphnnbbgcnilgaa.LstN

namespace Go.Proofs.Ytphnnbbgcnilgaa.BkT
open Go.RowKit Go.Proofs.YtphnnbbgcnilgaaW.PrintWords Go.Proofs.Ytphnnbbgcnilgaa.GEL Go.Proofs.Ytphnnbbgcnilgaa.LstN Go.Proofs.Ytphnnbbgcnilgaa.Common
set_option linter.unusedVariables false
set_option linter.unusedSimpArgs false

def times (s : ByteArray) (n : Nat) : ByteArray := ofL (Lib.repeatL s.data.toList n)
theorem rep_comm (l : List UInt8) : ∀ n, Lib.repeatL l n ++ l = l ++ Lib.repeatL l n
  | 0 => by simp [Lib.repeatL]
  | n + 1 => by simp only [Lib.repeatL]; rw [List.append_assoc, rep_comm l n]
theorem rep_succ (l : List UInt8) (n : Nat) : Lib.repeatL l (n + 1) = Lib.repeatL l n ++ l := by rw [rep_comm]; rfl
def own (w wr : World) (v : Value) (l : List UInt8) : Prop := wr.ownsRow w.heap.size 5 1 v (ofBs l).length (nums .u8 (ofBs l))
theorem own_app {w wr : World} {v : Value} {l : List UInt8} (s : ByteArray) (h : wr.ownsRow w.heap.size 5 1 v (ofBs l ++ bytesOf s).length (nums .u8 (ofBs l ++ bytesOf s))) : own w wr v (l ++ s.data.toList) := by
  unfold own
  rw [ofBs_of] at h
  rw [show ofBs (l ++ s.data.toList) = ofBs l ++ ofBs s.data.toList by simp [ofBs]]
  exact h
set_option maxHeartbeats 4000000 in
set_option maxRecDepth 1000000 in
theorem times_walk (s : ByteArray) (n : Nat) (hs : s.size ≤ 1000) (hn : n ≤ 1000) (w : World) :
    Calls Try.prog 24 #[.string s, .int .i64 (n : Int)] w fun e w' => e = .returned (.string (times s n)) ∧ Below w.heap.size w w' := by
  obtain ⟨c, hc⟩ : ∃ c, c = s.size * n := ⟨_, rfl⟩
  have hc1 : c ≤ 1000000 := by rw [hc]; exact Nat.mul_le_mul hs hn
  have hwc : wrap64 ((s.size : Int) * (n : Int)) = ((c : Nat) : Int) := by
    rw [← Int.natCast_mul, ← hc, w64 _ (by omega) (by omega)]
  have hmx : max (n : Int) 0 = (n : Int) := by omega
  have HMK : Aside0 (∀ W : World, (Instr.makeSlice 30 (.int .i64 0) (.int .i64 (c : Int))).run Try.prog W = .ok (.slice (some ⟨W.heap.size, 0, none⟩) 0 c) (W.alloc (.cells (madeCells #[.int .u8 0] c) 5))) := Aside0.mk fun W => by
    obtain ⟨i0, hi, hzz⟩ := Option.map_eq_some_iff.1 info5
    simp only [Prod.mk.injEq] at hzz
    obtain ⟨hz0, hz1, hz2⟩ := hzz
    have := run_make (P := Try.prog) W 30 5 i0 (.int .u8 0) Try.underlying30 hi hz0 .i64 .i64 0 c (by omega) (by omega) (by rw [hz2]; omega) (by omega)
    simp only [Int.toNat_natCast, hz1, Nat.mul_one] at this
    exact this
  have HOW : ∀ W : World, Aside0 (own W (W.alloc (.cells (madeCells #[.int .u8 0] c) 5)) (.slice (some ⟨W.heap.size, 0, none⟩) 0 c) []) := fun W => by
    refine Aside0.mk ?_
    exact World.ownsRow_made W _ c (Nat.le_refl _) (by unfold maxLen; omega) (by rw [size_madeCells]; simp)
  go_enter Try.func24, Try.ntmps24
  go_wp2
  rw [show ((s.size : Int) * (n : Int)) = (c : Int) by rw [← Int.natCast_mul, ← hc], HMK.out]
  have HO0 := HOW w
  have hlen : ∀ k, k ≤ n → (ofBs (Lib.repeatL s.data.toList k)).length ≤ 1000000 := fun k hk => by
    rw [show (ofBs (Lib.repeatL s.data.toList k)).length = k * s.size by rw [ofBs, List.length_map, Lib.repeatL_length]; simp]
    exact Nat.le_trans (Nat.mul_le_mul (Nat.le_trans hk hn) hs) (by decide)
  have HLN := Aside0.mk hlen
  clear hc hwc hlen
  go_wp2
  go_loopw [5, 13] (fun v i wr => ∃ (k : Nat) (v1 : Value), v1 = v ∧ Value.int .i64 (k : Int) = i ∧ k ≤ n ∧ Aside0 (own w wr v1 (Lib.repeatL s.data.toList k)) ∧ Aside0 (Below w.heap.size w wr)) (fun _ i _ => n - (intOf i).toNat)
  case atStart => exact ⟨0, _, rfl, rfl, by omega, HO0, Aside0.mk (below_alloc (Below.refl _ _) _)⟩
  case round =>
    obtain ⟨k, v1, rfl, rfl, hk, HO, HB⟩ := hrel
    by_cases hlt : k < n
    · have hwk : wrap64 ((k : Int) + 1) = ((k + 1 : Nat) : Int) := by rw [w64 _ (by omega) (by omega)]; omega
      go_wp2_with (at_builtin; refine print_append_str (w0 := w) w.heap.size rfl (.tmp 15) _ 30 9 5 rfl Try.underlying30 Try.underlying9 info5 v1 (ofBs (Lib.repeatL s.data.toList k)) s rfl rfl ?aO ?aB ?aS ?aL ?_; (case aO => exact HO.out); (case aB => exact HB.out); (case aS => exact HB.out.size); (case aL => have := HLN.out k hk; omega); intro v2 w2 ho hb hg; have HO2 := Aside0.mk (own_app s ho); have HB2 := Aside0.mk hb; clear ho hb hg)
      go_roundw
      case rel => exact ⟨k + 1, v2, rfl, by go_num, by omega, by rw [rep_succ]; exact HO2, HB2⟩
      case measure => simp [intOf]; omega
    · obtain rfl : k = n := by omega
      have hcv := own_string (P := Try.prog) Try.underlying30 Try.underlying5 Try.underlying9 HO.out
      have hst : strOfNums (ofBs (Lib.repeatL s.data.toList k)) = times s k := str_nums _
      rw [hst] at hcv
      go_wp2
      go_ret
      exact ⟨rfl, HB.out⟩
end Go.Proofs.Ytphnnbbgcnilgaa.BkT

namespace Go.Proofs.Ytphnnbbgcnilgaa.GivenHtml
open Go.RowKit Go.Proofs.YtphnnbbgcnilgaaW.PrintWords Go.Proofs.Ytphnnbbgcnilgaa.Common Go.Proofs.Ytphnnbbgcnilgaa.GFnListHTML
set_option linter.unusedVariables false

def okSt (st : LstD.St) : Prop := st.1.length ≤ 1000 ∧ ∀ x ∈ st.1, x.1 ≤ 1000 ∧ LstT.good x.2
def impl_ListHTML.f (l : List S58) (cl : ByteArray) : Option ByteArray := HtD.htmlF l cl
theorem impl_ListHTML.calls (A : Option Addr) (c : Nat) (l : List S58) (cl r : ByteArray) (w : World) (hr : Kd.C k58 w A l.length l) (hc : l.length ≤ c) (h : impl_ListHTML.f l cl = some r) :
    Calls Try.prog 10 #[.slice A l.length c, .string cl] w fun e w' => e = .returned (.string r) ∧ Below w.heap.size w w' := HtD.listHtml_c A c l cl r w hr h
def spec_TxSimple.f (s : ByteArray) (b : Bool) : Option Bool := some (LstN.simple s b)
theorem spec_TxSimple.calls (s : ByteArray) (b : Bool) (r : Bool) (w : World) (h : spec_TxSimple.f s b = some r) :
    Calls Try.prog 19 #[.string s, .bool b] w fun e w' => e = .returned (.bool r) ∧ Below w.heap.size w w' := by
  injection h with h
  rw [← h]
  exact LstN.simple_walk s b w
def spec_TxTimes.f (s : ByteArray) (n : Int) : Option ByteArray := if s.size ≤ 1000 ∧ 0 ≤ n ∧ n ≤ 1000 then some (BkT.times s n.toNat) else none
theorem spec_TxTimes.calls (s : ByteArray) (n : Int) (r : ByteArray) (w : World) (h : spec_TxTimes.f s n = some r) :
    Calls Try.prog 24 #[.string s, .int .i64 n] w fun e w' => e = .returned (.string r) ∧ Below w.heap.size w w' := by
  unfold spec_TxTimes.f at h
  split at h
  · rename_i hs
    obtain ⟨hs, h0, h1⟩ := hs
    injection h with h
    rw [← h]
    have := BkT.times_walk s n.toNat hs (by omega) w
    rwa [Int.toNat_of_nonneg h0] at this
  · cases h
end Go.Proofs.Ytphnnbbgcnilgaa.GivenHtml
