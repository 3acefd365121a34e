/-
  Proved: what spec.LsStyled returns, as a plain function. Conditions: none.
-/
import Derived.Test.YtphnnbbgcnilgaaDoorGEKx1
import Derived.Test.YtphnnbbgcnilgaaDoorCommon
import Derived.WalkKit
import Derived.BigCall
import Derived.Deep.LoopGhost
import Derived.Lib.OthersKept
import Derived.Lib.RuneBytes
import Derived.Lib.MapLaws
import Derived.Lib.TrimUEq
import Derived.Test.YtphnnbbgcnilgaaDoorGELx1
namespace Go.Proofs.YtphnnbbgcnilgaaDoor.LstN
open Go.RowKit Go.Proofs.YtphnnbbgcnilgaaDoorW.PrintWords Go.Proofs.YtphnnbbgcnilgaaDoor.GEK
set_option linter.unusedVariables false

theorem width_pos (s : ByteArray) (pos : Nat) (h : pos < s.size) : 1 ≤ (Utf8.decode s pos).2 := by
  by_cases ha : (s[pos]'h).toNat < 128
  · rw [decode_ascii s pos h ha]
    exact Nat.le_refl _
  · exact (decode_high s pos h (by omega)).2
theorem drawn_heap {w w1 : World} (h : Drawn0 w w1) : w1.heap = w.heap := by
  obtain ⟨⟨n, rfl⟩⟩ := h
  rfl
def known (r : Int) : Bool := (spec_TxKnown.f r).getD false
theorem wide_some (r : Int) : ∃ b, spec_TxWide.f r = some b := by
  unfold spec_TxWide.f
  repeat' split
  all_goals exact ⟨_, rfl⟩
theorem boxed_some (r : Int) : ∃ b, spec_TxBoxed.f r = some b := by
  unfold spec_TxBoxed.f
  split
  all_goals exact ⟨_, rfl⟩
theorem known_some (r : Int) : spec_TxKnown.f r = some (known r) := by
  obtain ⟨a, ha⟩ := wide_some r
  obtain ⟨b, hb⟩ := boxed_some r
  unfold known
  have : ∃ c, spec_TxKnown.f r = some c := by
    unfold spec_TxKnown.f
    rw [ha, hb]
    simp only [Option.bind_some]
    repeat' split
    all_goals exact ⟨_, rfl⟩
  obtain ⟨c, hc⟩ := this
  rw [hc]; rfl
def simpleFrom (s : ByteArray) (lines : Bool) : Nat → Nat → Bool
  | 0, _ => true
  | fuel + 1, pos => if pos < s.size then
      (if known (Utf8.decode s pos).1 = true ∨ (lines = true ∧ (Utf8.decode s pos).1 = 10) then simpleFrom s lines fuel (pos + (Utf8.decode s pos).2) else false) else true
def simple (s : ByteArray) (lines : Bool) : Bool := simpleFrom s lines s.size 0

set_option maxHeartbeats 4000000 in
set_option maxRecDepth 1000000 in
theorem simple_walk (s : ByteArray) (lines : Bool) (w : World) :
    Calls Tryd.prog 17 #[.string s, .bool lines] w fun e w' => e = .returned (.bool (simple s lines)) ∧ Below w.heap.size w w' := by
  go_enter Tryd.func17, Tryd.ntmps17
  go_wp2
  go_loopw [6] (fun _ wr => ∃ (pos fuel : Nat), wr.heap[w.heap.size]? = some (.stringIter s pos) ∧ Below w.heap.size w wr ∧ simpleFrom s lines fuel pos = simple s lines ∧ s.size ≤ pos + fuel) (fun _ wr => s.size - wr.iterPos w.heap.size)
  case atStart =>
    refine ⟨0, s.size, ?_, (Below.refl _ w).alloc (Nat.le_refl _) _, rfl, by omega⟩
    have := World.iter_heap w s 0
    simpa using this
  case round =>
    obtain ⟨pos, fuel, hit, hbw, hacc, hfu⟩ := hrel
    by_cases hp : pos < s.size
    · have hnx : ∀ ty, (Instr.next (.pointer (some ⟨w.heap.size, 0, none⟩)) true ty).run Tryd.prog wr = _ := fun ty => Lib.run_next_any_at wr w.heap.size s pos ty hit hp
      have hwd := width_pos s pos hp
      have hd1 := decode_le s pos
      have hit2 := Lib.iterAt_heap wr w.heap.size s pos (pos + (Utf8.decode s pos).2) hit
      have hbw2 := Lib.below_iterAt hbw (k := w.heap.size) (Nat.le_refl _) s (pos + (Utf8.decode s pos).2)
      obtain ⟨f, rfl⟩ : ∃ f, fuel = f + 1 := ⟨fuel - 1, by omega⟩
      obtain ⟨r, hr⟩ : ∃ r, r = (Utf8.decode s pos).1 := ⟨_, rfl⟩
      obtain ⟨n, hn⟩ : ∃ n, n = (Utf8.decode s pos).2 := ⟨_, rfl⟩
      simp only [simpleFrom, if_pos hp] at hacc
      rw [← hr, ← hn] at hacc
      rw [← hr, ← hn] at hnx
      rw [← hr] at hd1
      rw [← hn] at hwd hit2 hbw2
      have HP := Aside0.mk hit
      clear hr hn hit hbw
      have C := fun w => Aside0.mk (spec_TxKnown.calls (r : Int) (known r) w (known_some r))
      cases hk : known (r : Int)
      · rw [hk] at C
        cases lines
        · have hres : simple s false = false := by rw [← hacc]; simp [hk]
          have HR := Aside0.mk hres
          clear hres hacc
          go_wp2_with (go_at_call 28; refine (C _).out.mono ?_; rintro e W1 ⟨rfl, hdr⟩; have HD := Aside0.mk hdr; clear hdr)
          go_ret
          exact ⟨by rw [HR.out]; rfl, hbw2.trans (HD.out.below.mono hbw2.size)⟩
        · by_cases h10 : r = 10
          · have HA : Aside0 (simpleFrom s true f (pos + n) = simple s true) := ⟨by rw [← hacc]; simp [h10]⟩
            subst h10
            clear hacc
            go_wp2_with (go_at_call 28; refine (C _).out.mono ?_; rintro e W1 ⟨rfl, hdr⟩; have HD := Aside0.mk hdr; clear hdr)
            go_roundw
            case rel => exact ⟨pos + n, f, by rw [drawn_heap HD.out]; exact hit2, hbw2.trans (HD.out.below.mono hbw2.size), HA.out, by omega⟩
            case measure => simp only [World.iterPos, drawn_heap HD.out, hit2, HP.out]; omega
          · have h10' : ¬ (r : Int) = 10 := by omega
            have hb10 : ((r : Int) == 10) = false := by simpa using h10'
            have hres : simple s true = false := by rw [← hacc]; simp [hk, h10]
            have HR := Aside0.mk hres
            clear hres hacc
            go_wp2_with (go_at_call 28; refine (C _).out.mono ?_; rintro e W1 ⟨rfl, hdr⟩; have HD := Aside0.mk hdr; clear hdr)
            go_ret
            exact ⟨by rw [HR.out]; rfl, hbw2.trans (HD.out.below.mono hbw2.size)⟩
      · rw [hk] at C
        have HA : Aside0 (simpleFrom s lines f (pos + n) = simple s lines) := ⟨by rw [← hacc]; simp [hk]⟩
        clear hacc
        go_wp2_with (go_at_call 28; refine (C _).out.mono ?_; rintro e W1 ⟨rfl, hdr⟩; have HD := Aside0.mk hdr; clear hdr)
        go_roundw
        case rel => exact ⟨pos + n, f, by rw [drawn_heap HD.out]; exact hit2, hbw2.trans (HD.out.below.mono hbw2.size), HA.out, by omega⟩
        case measure => simp only [World.iterPos, drawn_heap HD.out, hit2, HP.out]; omega
    · have hnx : ∀ ty, (Instr.next (.pointer (some ⟨w.heap.size, 0, none⟩)) true ty).run Tryd.prog wr = _ := fun ty => Lib.run_next_end_at wr w.heap.size s pos ty hit hp
      have hlast : simple s lines = true := by
        rw [← hacc]
        cases fuel with
        | zero => rfl
        | succ f => simp [simpleFrom, hp]
      have HL := Aside0.mk hlast
      clear hlast hacc
      go_wp2
      go_ret
      exact ⟨by rw [HL.out]; rfl, hbw⟩
theorem known_low : ∀ r : Fin 32, known (r.val : Int) = false := by decide +kernel
theorem known_bad : known 65533 = false := by decide +kernel
theorem mem_pos (l : List UInt8) (c : UInt8) (n : Nat) (h : c ∈ l) : (∃ i, i < n ∧ c = l.getD i 0) ∨ c ∈ l.drop n := by
  obtain ⟨i, hi, rfl⟩ := List.getElem_of_mem h
  by_cases hn : i < n
  · exact .inl ⟨i, hn, by simp [List.getD_eq_getElem?_getD, List.getElem?_eq_getElem hi]⟩
  · refine .inr (List.mem_iff_getElem.2 ⟨i - n, by simp; omega, ?_⟩)
    rw [List.getElem_drop]
    congr 1
    omega
def okc (c : UInt8) : Prop := c ≠ 9 ∧ c ≠ 10 ∧ c ≠ 13
theorem okc_of (c : UInt8) (h : 32 ≤ c.toNat) : okc c := by
  refine ⟨?_, ?_, ?_⟩ <;> rintro rfl <;> revert h <;> decide
theorem good_from (s : ByteArray) (fuel : Nat) : ∀ pos, s.size ≤ pos + fuel → simpleFrom s false fuel pos = true → ∀ c ∈ s.data.toList.drop pos, okc c := by
  induction fuel with
  | zero =>
    intro pos hp _ c hc
    rw [List.drop_eq_nil_of_le (by simp; omega)] at hc
    cases hc
  | succ f ih =>
    intro pos hp h c hc
    by_cases hlt : pos < s.size
    · rw [simpleFrom, if_pos hlt] at h
      have hw := width_pos s pos hlt
      have hd := Lib.decodeL_drop s pos
      obtain ⟨l, hl⟩ : ∃ l, l = s.data.toList.drop pos := ⟨_, rfl⟩
      have hdd : ∀ n, l.drop n = s.data.toList.drop (pos + n) := fun n => by rw [hl, List.drop_drop]
      rw [← hl] at hd hc
      rw [← hd] at h hw
      simp only [Bool.false_eq_true, false_and, or_false] at h
      by_cases hk : known ((Lib.decodeL l).1 : Int) = true
      · rw [if_pos hk] at h
        have hrest := ih _ (by omega) h
        rw [← hdd] at hrest
        rcases mem_pos l c (Lib.decodeL l).2 hc with ⟨i, hi, rfl⟩ | hm
        · apply okc_of
          rw [Lib.decodeL_N] at hi hk
          rcases Lib.decodeN_shape l.length (l.getD 0 0).toNat (l.getD 1 0).toNat (l.getD 2 0).toNat (l.getD 3 0).toNat with ⟨c1, e⟩ | ⟨c1, c2, c3, cv, e⟩ | ⟨c1, c2, c3, c4, cv, cs, e⟩ | ⟨c1, c2, c3, c4, c5, cv, cw, e⟩ | e
          · rw [e] at hi hk
            have hi0 : i = 0 := by simp at hi; omega
            subst hi0
            rcases Nat.lt_or_ge (l.getD 0 0).toNat 32 with h32 | h32
            · rw [known_low ⟨_, h32⟩] at hk
              cases hk
            · exact h32
          · rw [e] at hi
            have : i = 0 ∨ i = 1 := by simp at hi; omega
            rcases this with rfl | rfl <;> omega
          · rw [e] at hi
            have : i = 0 ∨ i = 1 ∨ i = 2 := by simp at hi; omega
            rcases this with rfl | rfl | rfl <;> omega
          · rw [e] at hi
            have : i = 0 ∨ i = 1 ∨ i = 2 ∨ i = 3 := by simp at hi; omega
            rcases this with rfl | rfl | rfl | rfl <;> omega
          · rw [e] at hk
            exact absurd hk (by rw [show ((65533 : Nat) : Int) = 65533 from rfl, known_bad]; decide)
        · exact hrest c hm
      · rw [if_neg hk] at h
        cases h
    · rw [List.drop_eq_nil_of_le (by simp; omega)] at hc
      cases hc
theorem simple_good (s : ByteArray) (h : simple s false = true) : ∀ c ∈ s.data.toList, okc c := by
  have := good_from s s.size 0 (by omega) h
  rwa [List.drop_zero] at this
end Go.Proofs.YtphnnbbgcnilgaaDoor.LstN

namespace Go.Proofs.YtphnnbbgcnilgaaDoor.BkW
open Go.RowKit Go.Proofs.YtphnnbbgcnilgaaDoorW.PrintWords Go.Proofs.YtphnnbbgcnilgaaDoor.GEK Go.Proofs.YtphnnbbgcnilgaaDoor.LstN Go.Proofs.YtphnnbbgcnilgaaDoor.Common
set_option linter.unusedVariables false
set_option linter.unusedSimpArgs false

def wide (r : Int) : Bool := (spec_TxWide.f r).getD false
theorem wide_is (r : Int) : spec_TxWide.f r = some (wide r) := by
  obtain ⟨b, hb⟩ := wide_some r
  unfold wide
  rw [hb]; rfl
def cols (r : Int) : Nat := if wide r = true then 2 else 1
def widthFrom (s : ByteArray) : Nat → Nat → Nat
  | 0, _ => 0
  | f + 1, pos => if pos < s.size then (if (Utf8.decode s pos).1 = 10 then 0 else cols (Utf8.decode s pos).1) + widthFrom s f (pos + (Utf8.decode s pos).2) else 0
def width (s : ByteArray) : Nat := widthFrom s s.size 0
end Go.Proofs.YtphnnbbgcnilgaaDoor.BkW

namespace Go.Proofs.YtphnnbbgcnilgaaDoor.BkY
open Go.RowKit Go.Proofs.YtphnnbbgcnilgaaDoorW.PrintWords Go.Proofs.YtphnnbbgcnilgaaDoor.GEK Go.Proofs.YtphnnbbgcnilgaaDoor.LstN Go.Proofs.YtphnnbbgcnilgaaDoor.Common Go.Proofs.YtphnnbbgcnilgaaDoor.BkW
set_option linter.unusedVariables false
set_option linter.unusedSimpArgs false

def okT (x : ByteArray) : Bool := decide (x.size ≤ 20) && simple x false
def noWideFrom (s : ByteArray) : Nat → Nat → Bool
  | 0, _ => true
  | f + 1, pos => if pos < s.size then (if wide (Utf8.decode s pos).1 = true then false else noWideFrom s f (pos + (Utf8.decode s pos).2)) else true
def noWide (s : ByteArray) : Bool := noWideFrom s s.size 0
def restF (f0 : Int) (f7 : ByteArray) : Bool := decide (f0 = 0) && decide (f7.toList = [10])
def texts (f1 f2 f3 f4 f5 f6 f8 : ByteArray) : List ByteArray := [f1, f2, f3, f4, f5, f6, f8]
def styledF (f0 : Int) (f1 f2 f3 f4 f5 f6 f7 f8 : ByteArray) : Bool := (texts f1 f2 f3 f4 f5 f6 f8).all okT && (noWide f5 && restF f0 f7)
set_option maxHeartbeats 8000000 in
set_option maxRecDepth 1000000 in
theorem styled_walk (f0 : Int) (f1 f2 f3 f4 f5 f6 f7 f8 : ByteArray) (w : World) :
    Calls Tryd.prog 8 #[.agg #[.int .i64 f0, .string f1, .string f2, .string f3, .string f4, .string f5, .string f6, .string f7, .string f8]] w fun e w' => e = .returned (.bool (styledF f0 f1 f2 f3 f4 f5 f6 f7 f8)) ∧ Below w.heap.size w w' := by
  obtain ⟨Xs, hXs⟩ : ∃ Xs, Xs = ([f1, f2, f3, f4, f5, f6, f8] : List ByteArray) := ⟨_, rfl⟩
  obtain ⟨R, hR⟩ : ∃ R, R = styledF f0 f1 f2 f3 f4 f5 f6 f7 f8 := ⟨_, rfl⟩
  have hn7 : Xs.length = 7 := by rw [hXs]; rfl
  have HR0 : Aside0 (R = (Xs.all okT && (noWide f5 && restF f0 f7))) := ⟨by rw [hR, hXs]; rfl⟩
  have HX := Aside0.mk hXs
  have HN := Aside0.mk hn7
  rw [← hR]
  clear hXs hR hn7
  go_enter Tryd.func8, Tryd.ntmps8
  go_wp2_with (first
    | ((with_reducible refine gate_dst (N := 1) rfl ?_); (try (refine gate_guard (by rfl) ?_; dsimp only)); refine box_event ?hg (N := 1) ?hd (cs := #[.int .i64 f0, .string f1, .string f2, .string f3, .string f4, .string f5, .string f6, .string f7, .string f8]) (t := 24) ?hr ?_; (case hd => rfl); (case hg => rfl); (case hr => first | (go_simp; done) | (go_simp; rfl)); intro gb hgb w10 hbox hb; have HBX := Aside0.mk hbox; have HBB := Aside0.mk hb; have c1 : w10.cell? ⟨gb, 1, none⟩ = some (.string f1) := (blk_cell hbox 1).trans rfl; have c2 : w10.cell? ⟨gb, 2, none⟩ = some (.string f2) := (blk_cell hbox 2).trans rfl; have c3 : w10.cell? ⟨gb, 3, none⟩ = some (.string f3) := (blk_cell hbox 3).trans rfl; have c4 : w10.cell? ⟨gb, 4, none⟩ = some (.string f4) := (blk_cell hbox 4).trans rfl; have c5 : w10.cell? ⟨gb, 5, none⟩ = some (.string f5) := (blk_cell hbox 5).trans rfl; have c6 : w10.cell? ⟨gb, 6, none⟩ = some (.string f6) := (blk_cell hbox 6).trans rfl; have c8 : w10.cell? ⟨gb, 8, none⟩ = some (.string f8) := (blk_cell hbox 8).trans rfl; clear hgb hbox hb)
    | ((with_reducible refine gate_dst (N := 21) rfl ?_); refine Kd.R_lit (w0 := w10) Kd.string w10.heap.size 9 ?hg (N := 21) ?hd (xs := ([f1, f2, f3, f4, f5, f6, f8] : List ByteArray)) (inner := [.string f1, .string f2, .string f3, .string f4, .string f5, .string f6, .string f8]) (ok := fun _ => True) (okp := fun _ => True) ?hr ?hp (fun _ hk => hk) trivial (Below.refl _ _) (Nat.le_refl _) (by simp) ?_; (case hd => rfl); (case hg => rfl); (case hr => first | (go_simp; done) | (go_simp; rfl)); (case hp => exact (Reps.one (show Kd.M Kd.string _ _ _ f1 [.string f1] from rfl) (Reps.one (show Kd.M Kd.string _ _ _ f2 [.string f2] from rfl) (Reps.one (show Kd.M Kd.string _ _ _ f3 [.string f3] from rfl) (Reps.one (show Kd.M Kd.string _ _ _ f4 [.string f4] from rfl) (Reps.one (show Kd.M Kd.string _ _ _ f5 [.string f5] from rfl) (Reps.one (show Kd.M Kd.string _ _ _ f6 [.string f6] from rfl) (Reps.one (show Kd.M Kd.string _ _ _ f8 [.string f8] from rfl) (Reps.none _ _))))))))); intro v21 w21 ho hb hg_ hnew_; clear hg_ hnew_; rw [← HX.out] at ho; have HO := Aside0.mk ho; have HB21 := Aside0.mk hb; have HBX2 := Aside0.mk (blk_below HBX.out hb); obtain ⟨g, cap, rfl, hgb, hgl, X9, hty⟩ := Kd.R_form ho (by rw [HN.out]; omega); clear ho hb hty hgb hgl))
  have HZ : Aside0 (w.heap.size ≤ w10.heap.size) := ⟨HBB.out.size⟩
  have HB0 : Aside0 (Below w.heap.size w w21) := ⟨HBB.out.trans (HB21.out.mono HBB.out.size)⟩
  clear c1 c2 c3 c4 c5 c6 c8 HBX HBB HB21 HX
  go_loopw [4, 23] (fun _ i wr => ∃ (k : Nat), Value.int .i64 (k : Int) = i ∧ k ≤ Xs.length ∧ Aside0 (R = ((Xs.drop k).all okT && (noWide f5 && restF f0 f7))) ∧ Aside0 (Kd.R Kd.string 9 wr w10.heap.size (fun _ => True) (.slice (some ⟨g, 0, none⟩) Xs.length cap) Xs) ∧ Aside0 (Below w.heap.size w wr) ∧ Aside0 (wr.heap[gb]? = some (.cells #[.int .i64 f0, .string f1, .string f2, .string f3, .string f4, .string f5, .string f6, .string f7, .string f8] 24 (0, 0)))) (fun _ i _ => Xs.length - (intOf i).toNat)
  case atStart => exact ⟨0, rfl, by omega, HR0, HO, HB0, HBX2⟩
  case round =>
    obtain ⟨k, rfl, hk, HRk, HOk, HBk, HXk⟩ := hrel
    clear HR0 HO HB0 HBX2
    by_cases hlt : k < Xs.length
    · have hwk : wrap64 ((k : Int) + 1) = ((k + 1 : Nat) : Int) := by have := HN.out; rw [w64 _ (by omega) (by omega)]; omega
      have hx := Kd.R_celln (⟨#[]⟩ : ByteArray) HOk.out ((k : Nat) : Int) (by omega) (by omega)
      rw [Int.toNat_natCast] at hx
      obtain ⟨hx0, hf0⟩ := hx
      have hgx : rdOf (⟨#[]⟩ : ByteArray) Xs ((k : Nat) : Int) = Xs[k] := by simp [rdOf, List.getD_eq_getElem?_getD, List.getElem?_eq_getElem hlt]
      rw [hgx] at hx0
      change wr.cell? _ = some (.string Xs[k]) at hx0
      have hrk := HRk.out
      rw [List.drop_eq_getElem_cons hlt, List.all_cons] at hrk
      have HS := fun W => Aside0.mk (simple_walk Xs[k] false W)
      generalize Xs[k] = x at *
      clear hgx HRk
      have hox : okT x = (decide (x.size ≤ 20) && simple x false) := rfl
      rw [hox] at hrk
      clear hox
      by_cases h20 : x.size ≤ 20
      · have hd : decide ((x.size : Int) > 20) = false := decide_eq_false (by omega)
        have hd2 : decide (20 < (x.size : Int)) = false := decide_eq_false (by omega)
        rw [decide_eq_true h20, Bool.true_and] at hrk
        cases hb : simple x false with
        | true =>
          rw [hb] at HS hrk
          have HRK := Aside0.mk (hrk.trans (Bool.and_assoc _ _ _))
          clear hrk hb
          go_wp2_with (go_at_call 17; refine (HS _).out.mono ?_; rintro e W1 ⟨rfl, hb1⟩; have HB1 := Aside0.mk hb1; clear hb1)
          go_roundw
          case rel => exact ⟨k + 1, by go_num, by omega, ⟨HRK.out.trans (Bool.true_and _)⟩, ⟨Kd.R_below HOk.out HB1.out⟩, ⟨HBk.out.trans (HB1.out.mono HBk.out.size)⟩, ⟨blk_below HXk.out HB1.out⟩⟩
          case measure => rw [hwk]; simp [intOf]; omega
        | false =>
          rw [hb] at HS hrk
          have HRK := Aside0.mk hrk
          clear hrk hb
          go_wp2_with (go_at_call 17; refine (HS _).out.mono ?_; rintro e W1 ⟨rfl, hb1⟩; have HB1 := Aside0.mk hb1; clear hb1)
          go_ret
          exact ⟨by rw [HRK.out]; rfl, HBk.out.trans (HB1.out.mono HBk.out.size)⟩
      · have hd : decide ((x.size : Int) > 20) = true := decide_eq_true (by omega)
        have hd2 : decide (20 < (x.size : Int)) = true := decide_eq_true (by omega)
        rw [decide_eq_false h20, Bool.false_and] at hrk
        have HRK := Aside0.mk hrk
        clear hrk
        go_wp2
        go_ret
        exact ⟨by rw [HRK.out]; rfl, HBk.out⟩
    · have hrk := HRk.out
      rw [List.drop_eq_nil_of_le (by omega), List.all_nil, Bool.true_and] at hrk
      have HR2 := Aside0.mk hrk
      obtain ⟨wz, hz⟩ : ∃ z, z = wr := ⟨_, rfl⟩
      subst hz
      have c5 : wz.cell? ⟨gb, 5, none⟩ = some (.string f5) := (blk_cell HXk.out 5).trans rfl
      have hle : ¬ k < Xs.length := hlt
      clear hrk HRk HOk
      go_wp2
      have HIT : Aside0 ((wz.iter f5 0).heap[wz.heap.size]? = some (.stringIter f5 0)) := ⟨World.iter_heap wz f5 0⟩
      have HBI : Aside0 (Below wz.heap.size wz (wz.iter f5 0)) := ⟨(Below.refl _ _).alloc (Nat.le_refl _) _⟩
      go_loopw [6] (fun _ wq => ∃ (pos fuel : Nat), wq.heap[wz.heap.size]? = some (.stringIter f5 pos) ∧ Aside0 (Below wz.heap.size wz wq) ∧ Aside0 (R = (noWideFrom f5 fuel pos && restF f0 f7)) ∧ f5.size ≤ pos + fuel) (fun _ wq => f5.size - wq.iterPos wz.heap.size)
      case atStart => exact ⟨0, f5.size, HIT.out, HBI, HR2, by omega⟩
      case round =>
        obtain ⟨pos, fuel, hit, HBW, hacc, hfu⟩ := hrel
        clear HIT HBI HR2 c5
        by_cases hp : pos < f5.size
        · have hnx : ∀ ty, (Instr.next (.pointer (some ⟨wz.heap.size, 0, none⟩)) true ty).run Tryd.prog wr = _ := fun ty => Lib.run_next_any_at wr wz.heap.size f5 pos ty hit hp
          have hwd := width_pos f5 pos hp
          have hd1 := decode_le f5 pos
          have hit2 := Lib.iterAt_heap wr wz.heap.size f5 pos (pos + (Utf8.decode f5 pos).2) hit
          have HBW2 := Aside0.mk (Lib.below_iterAt HBW.out (k := wz.heap.size) (Nat.le_refl _) f5 (pos + (Utf8.decode f5 pos).2))
          have HME : Aside0 (wr.iterPos wz.heap.size = pos) := ⟨by simp only [World.iterPos, hit]⟩
          obtain ⟨f, rfl⟩ : ∃ f, fuel = f + 1 := ⟨fuel - 1, by omega⟩
          obtain ⟨r, hr⟩ : ∃ r, r = (Utf8.decode f5 pos).1 := ⟨_, rfl⟩
          obtain ⟨m, hm⟩ : ∃ m, m = (Utf8.decode f5 pos).2 := ⟨_, rfl⟩
          have hac := hacc.out
          simp only [noWideFrom, if_pos hp] at hac
          rw [← hr, ← hm] at hac hnx
          rw [← hr] at hd1
          rw [← hm] at hwd hit2 HBW2
          have C := fun w => Aside0.mk (spec_TxWide.calls (r : Int) (wide (r : Int)) w (wide_is (r : Int)))
          clear hr hm hacc hit HBW
          obtain ⟨wn, hwn⟩ : ∃ wn, wn = wr.iterAt wz.heap.size f5 (pos + m) := ⟨_, rfl⟩
          rw [← hwn] at hnx hit2 HBW2
          clear hwn
          cases hw : wide (r : Int) with
          | true =>
            rw [hw] at C hac
            rw [if_pos rfl, Bool.false_and] at hac
            have HA := Aside0.mk hac
            clear hac
            go_wp2_with (go_at_call 18; refine (C _).out.mono ?_; rintro e W1 ⟨rfl, hdr⟩; have HD := Aside0.mk hdr; clear hdr)
            go_ret
            exact ⟨by rw [HA.out]; rfl, HBk.out.trans ((HBW2.out.trans (HD.out.below.mono HBW2.out.size)).mono HBk.out.size)⟩
          | false =>
            rw [hw] at C hac
            rw [if_neg (by decide)] at hac
            have HA := Aside0.mk hac
            clear hac
            go_wp2_with (go_at_call 18; refine (C _).out.mono ?_; rintro e W1 ⟨rfl, hdr⟩; have HD := Aside0.mk hdr; clear hdr)
            go_roundw
            case rel => exact ⟨pos + m, f, by rw [drawn_heap HD.out]; exact hit2, ⟨HBW2.out.trans (HD.out.below.mono HBW2.out.size)⟩, HA, by omega⟩
            case measure => rw [HME.out]; simp only [World.iterPos, drawn_heap HD.out, hit2]; omega
        · have hnx : ∀ ty, (Instr.next (.pointer (some ⟨wz.heap.size, 0, none⟩)) true ty).run Tryd.prog wr = _ := fun ty => Lib.run_next_end_at wr wz.heap.size f5 pos ty hit hp
          have hlast : R = restF f0 f7 := by
            have := hacc.out
            cases fuel with
            | zero => simpa [noWideFrom] using this
            | succ f => simpa [noWideFrom, hp] using this
          have HL := Aside0.mk hlast
          have hxb := blk_below HXk.out HBW.out
          have c0 : wr.cell? ⟨gb, 0, none⟩ = some (.int .i64 f0) := (blk_cell hxb 0).trans rfl
          have c7 : wr.cell? ⟨gb, 7, none⟩ = some (.string f7) := (blk_cell hxb 7).trans rfl
          clear hlast hacc hxb
          by_cases hz0 : f0 = 0
          · subst hz0
            go_wp2
            go_ret
            exact ⟨by rw [HL.out]; show Ending.returned (.bool (f7.toList == [10])) = _; unfold restF; rw [decide_eq_true rfl, Bool.true_and]; congr 2; exact Bool.eq_iff_iff.2 (by simp), HBk.out.trans (HBW.out.mono HBk.out.size)⟩
          · have hzb : (f0 == 0) = false := by simpa using hz0
            go_wp2
            go_ret
            exact ⟨by rw [HL.out]; simp [restF, hz0], HBk.out.trans (HBW.out.mono HBk.out.size)⟩
end Go.Proofs.YtphnnbbgcnilgaaDoor.BkY
