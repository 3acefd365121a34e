/-
  Proved: what table.zzIndexAny and table.zzContainsAny return where the characters that are sought are ASCII: whether one of these bytes is there. Conditions: texts of at most 2^40 bytes.
-/
import Derived.Test.YtjoagjkmghmnnaaCommon
import Derived.Test.YtjoagjkmghmnnaaProg
import Derived.WalkKit
import Derived.BigCall
import Derived.Lib.OthersKept
import Derived.Lib.MapLaws
import Derived.Laws.RangeString
namespace Go.Proofs.Ytjoagjkmghmnnaa.AnyOf
open Go.RowKit Go.Lib Go.Proofs.YtjoagjkmghmnnaaW.PrintWords Go.Proofs.Ytjoagjkmghmnnaa.Common
set_option linter.unusedVariables false

def anyIn (s q : List UInt8) : Bool := s.any fun c => decide (c ∈ q)
theorem wf_byte (x : UInt8) : x.toNat < 256 := x.toNat_lt
/-- one step of a range over a text: an ASCII byte, or a rune beyond ASCII of bytes beyond ASCII -/
theorem rune_step (s : ByteArray) (pos : Nat) (h : pos < s.size) :
    1 ≤ (Utf8.decode s pos).2 ∧ pos + (Utf8.decode s pos).2 ≤ s.size ∧
    (((s.data.toList.getD pos 0).toNat < 128 ∧ Utf8.decode s pos = ((s.data.toList.getD pos 0).toNat, 1)) ∨ (128 ≤ (Utf8.decode s pos).1 ∧ ∀ j, j < (Utf8.decode s pos).2 → 128 ≤ (s.data.toList.getD (pos + j) 0).toNat)) := by
  have hl : s.data.toList.length = s.size := size_l s
  rw [decode_N, hl]
  obtain ⟨h0, e⟩ | ⟨h0, h1, h2, h3, e⟩ | ⟨h0, h1, h2, h3, h4, h5, e⟩ | ⟨h0, h1, h2, h3, h4, h5, h6, e⟩ | e := decodeN_shape (s.size - pos) (s.data.toList.getD pos 0).toNat (s.data.toList.getD (pos + 1) 0).toNat (s.data.toList.getD (pos + 2) 0).toNat (s.data.toList.getD (pos + 3) 0).toNat
  · rw [e]
    exact ⟨by dsimp only; omega, by dsimp only; omega, .inl ⟨h0, rfl⟩⟩
  · rw [e]
    refine ⟨by dsimp only; omega, by dsimp only; omega, .inr ⟨by dsimp only; omega, fun j hj => ?_⟩⟩
    simp only at hj
    obtain rfl | rfl : j = 0 ∨ j = 1 := by omega
    · rw [Nat.add_zero]; omega
    · omega
  · rw [e]
    refine ⟨by dsimp only; omega, by dsimp only; omega, .inr ⟨by dsimp only; omega, fun j hj => ?_⟩⟩
    simp only at hj
    obtain rfl | rfl | rfl : j = 0 ∨ j = 1 ∨ j = 2 := by omega
    · rw [Nat.add_zero]; omega
    · omega
    · omega
  · rw [e]
    refine ⟨by dsimp only; omega, by dsimp only; omega, .inr ⟨by dsimp only; omega, fun j hj => ?_⟩⟩
    simp only at hj
    obtain rfl | rfl | rfl | rfl : j = 0 ∨ j = 1 ∨ j = 2 ∨ j = 3 := by omega
    · rw [Nat.add_zero]; omega
    · omega
    · omega
    · omega
  · by_cases h0 : (s.data.toList.getD pos 0).toNat < 128
    · have e2 : decodeN (s.size - pos) (s.data.toList.getD pos 0).toNat (s.data.toList.getD (pos + 1) 0).toNat (s.data.toList.getD (pos + 2) 0).toNat (s.data.toList.getD (pos + 3) 0).toNat = ((s.data.toList.getD pos 0).toNat, 1) := by
        unfold decodeN; rw [if_pos h0]
      rw [e2]
      exact ⟨by dsimp only; omega, by dsimp only; omega, .inl ⟨h0, rfl⟩⟩
    · rw [e]
      refine ⟨by dsimp only; omega, by dsimp only; omega, .inr ⟨by dsimp only; omega, fun j hj => ?_⟩⟩
      simp only at hj
      obtain rfl : j = 0 := by omega
      rw [Nat.add_zero]; omega
/-- no byte below pos is sought -/
def NoTo (s q : List UInt8) (pos : Nat) : Prop := ∀ j, j < pos → s.getD j 0 ∉ q
def Post (s q : List UInt8) (w : World) (e : Ending) (w' : World) : Prop := ∃ x : Int, e = .returned (.int .i64 x) ∧ decide (x ≥ 0) = anyIn s q ∧ Below w.heap.size w w'
theorem any_end {s q : List UInt8} (h : NoTo s q s.length) : anyIn s q = false := by
  rw [anyIn, List.any_eq_false]
  intro c hc
  obtain ⟨i, hi, rfl⟩ := List.mem_iff_getElem.1 hc
  have := h i hi
  simpa [List.getD_eq_getElem?_getD, List.getElem?_eq_getElem hi] using this
theorem any_hit {s q : List UInt8} {pos : Nat} (h : pos < s.length) (hm : s.getD pos 0 ∈ q) : anyIn s q = true := by
  rw [anyIn, List.any_eq_true]
  refine ⟨s[pos], List.getElem_mem h, ?_⟩
  simpa [List.getD_eq_getElem?_getD, List.getElem?_eq_getElem h] using hm
theorem no_step {s : ByteArray} {q : List UInt8} {pos : Nat} (hq : ∀ c ∈ q, c.toNat < 128) (hlt : pos < s.size) (hn : NoTo s.data.toList q pos) (hno : ∀ c ∈ q, c.toNat ≠ (Utf8.decode s pos).1) : NoTo s.data.toList q (pos + (Utf8.decode s pos).2) := by
  intro j hj hm
  by_cases hjp : j < pos
  · exact hn j hjp hm
  · obtain ⟨_, _, ⟨h0, e⟩ | ⟨h0, hb⟩⟩ := rune_step s pos hlt
    · rw [e] at hj hno
      simp only at hj hno
      obtain rfl : j = pos := by omega
      exact hno _ hm rfl
    · have := hb (j - pos) (by omega)
      rw [show pos + (j - pos) = j by omega] at this
      have := hq _ hm
      omega
set_option maxHeartbeats 4000000 in
set_option maxRecDepth 1000000 in
theorem indexAny (s q : ByteArray) (hs : s.size ≤ 1099511627776) (hqs : q.size ≤ 1000000) (hq : ∀ c ∈ q.data.toList, c.toNat < 128) (w : World) :
    Calls Try.prog 144 #[.string s, .string q] w (Post s.data.toList q.data.toList w) := by
  have HQ := Aside0.mk hq
  clear hq
  go_enter Try.func144, Try.ntmps144
  go_wp2
  go_loopw [5] (fun _ wr => ∃ pos : Nat, pos ≤ s.size ∧ Aside0 (wr.heap[w.heap.size]? = some (.stringIter s pos)) ∧ Aside0 (Below w.heap.size w wr) ∧ Aside0 (NoTo s.data.toList q.data.toList pos)) (fun _ wr => s.size - wr.iterPos w.heap.size)
  case atStart => exact ⟨0, by omega, ⟨by simpa using World.iter_heap w s 0⟩, ⟨(Below.refl _ w).alloc (Nat.le_refl _) _⟩, ⟨fun j hj => by omega⟩⟩
  case round =>
    obtain ⟨pos, hp, HIT, HB, HNO⟩ := hrel
    by_cases hlt : pos < s.size
    · have hst := rune_step s pos hlt
      obtain ⟨r, hr⟩ : ∃ r, r = (Utf8.decode s pos).1 := ⟨_, rfl⟩
      obtain ⟨n, hn⟩ : ∃ n, n = (Utf8.decode s pos).2 := ⟨_, rfl⟩
      have hnx : ∀ ty, (Instr.next (.pointer (some ⟨w.heap.size, 0, none⟩)) true ty).run Try.prog wr = .ok (.tuple #[.bool true, .int .i64 pos, .int .i32 (r : Nat)]) (wr.iterAt w.heap.size s (pos + n)) := fun ty => by
        rw [hr, hn]; exact Lib.run_next_any_at wr w.heap.size s pos ty HIT.out hlt
      have hn1 : 1 ≤ n := by rw [hn]; exact hst.1
      have hn2 : pos + n ≤ s.size := by rw [hn]; exact hst.2.1
      have HSTEP : Aside0 ((∀ c ∈ q.data.toList, c.toNat ≠ r) → NoTo s.data.toList q.data.toList (pos + n)) := ⟨fun hno => by rw [hn]; exact no_step HQ.out hlt HNO.out (by rw [← hr]; exact hno)⟩
      have HHIT : Aside0 ((∃ c ∈ q.data.toList, c.toNat = r) → anyIn s.data.toList q.data.toList = true) := ⟨fun ⟨c, hc, hcr⟩ => by
        refine any_hit (pos := pos) (by rw [size_l]; exact hlt) ?_
        obtain ⟨_, _, ⟨h0, e⟩ | ⟨h0, hb⟩⟩ := hst
        · rw [e] at hr
          simp only at hr
          rw [show s.data.toList.getD pos 0 = c from UInt8.toNat_inj.1 (by omega)]
          exact hc
        · have := HQ.out c hc; omega⟩
      have HIT2 := Aside0.mk (Lib.iterAt_heap wr w.heap.size s pos (pos + n) HIT.out)
      have HB2 := Aside0.mk (Lib.below_iterAt HB.out (Nat.le_refl _) s (pos + n))
      have HME : Aside0 (wr.iterPos w.heap.size = pos) := ⟨by simp only [World.iterPos, HIT.out]⟩
      obtain ⟨wn, hwn⟩ : ∃ wn, wn = wr.iterAt w.heap.size s (pos + n) := ⟨_, rfl⟩
      rw [← hwn] at hnx HIT2 HB2
      clear hst hr hn hwn HIT HB HNO
      obtain ⟨wo, hwo⟩ : ∃ wo, wo = wr := ⟨_, rfl⟩
      subst hwo
      go_wp2
      have hszn : w.heap.size < wn.heap.size := (Array.getElem?_eq_some_iff.1 HIT2.out).1
      go_loopw [8] (fun _ wi => ∃ p2 : Nat, p2 ≤ q.size ∧ Aside0 (wi.heap[w.heap.size]? = some (.stringIter s (pos + n))) ∧ Aside0 (wi.heap[wn.heap.size]? = some (.stringIter q p2)) ∧ Aside0 (Below w.heap.size w wi) ∧ Aside0 (∀ j, j < p2 → (q.data.toList.getD j 0).toNat ≠ r)) (fun _ wi => q.size - wi.iterPos wn.heap.size)
      case atStart =>
        refine ⟨0, by omega, ⟨?_⟩, ⟨by simpa using World.iter_heap wn q 0⟩, ⟨HB2.out.alloc (Nat.le_of_lt hszn) _⟩, ⟨fun j hj => by omega⟩⟩
        exact (((Below.refl _ wn).alloc (Nat.le_refl _) _).block w.heap.size hszn).trans HIT2.out
      case round =>
        obtain ⟨p2, hp2, HI1, HI2, HB3, HNE⟩ := hrel
        by_cases hlt2 : p2 < q.size
        · have hlt2' : p2 < q.data.toList.length := by rw [size_l]; exact hlt2
          obtain ⟨d, hd⟩ : ∃ d, d = q.data.toList[p2] := ⟨_, rfl⟩
          have hdm : d ∈ q.data.toList := by rw [hd]; exact List.getElem_mem _
          have hdc : d.toNat < 128 := HQ.out d hdm
          have hsc : q[p2]'hlt2 = d := by rw [hd]; simp; rfl
          have hdec : Utf8.decode q p2 = (d.toNat, 1) := by rw [decode_ascii q p2 hlt2 (by rw [hsc]; exact hdc), hsc]
          have hnx2 : ∀ ty, (Instr.next (.pointer (some ⟨wn.heap.size, 0, none⟩)) true ty).run Try.prog wr = .ok (.tuple #[.bool true, .int .i64 p2, .int .i32 (d.toNat : Nat)]) (wr.iterAt wn.heap.size q (p2 + 1)) := fun ty => by
            have := Lib.run_next_any_at (P := Try.prog) wr wn.heap.size q p2 ty HI2.out hlt2
            rw [hdec] at this
            exact this
          have HI2' := Aside0.mk (Lib.iterAt_heap wr wn.heap.size q p2 (p2 + 1) HI2.out)
          have HI1' : Aside0 ((wr.iterAt wn.heap.size q (p2 + 1)).heap[w.heap.size]? = some (.stringIter s (pos + n))) := ⟨(Lib.iterAt_other wr wn.heap.size w.heap.size q (p2 + 1) (by omega)).trans HI1.out⟩
          have HB3' := Aside0.mk (Lib.below_iterAt HB3.out (Nat.le_of_lt hszn) q (p2 + 1))
          have HME2 : Aside0 (wr.iterPos wn.heap.size = p2) := ⟨by simp only [World.iterPos, HI2.out]⟩
          obtain ⟨wm, hwm⟩ : ∃ wm, wm = wr.iterAt wn.heap.size q (p2 + 1) := ⟨_, rfl⟩
          rw [← hwm] at hnx2 HI2' HI1' HB3'
          have hgd : q.data.toList.getD p2 0 = d := by rw [hd]; simp [List.getD_eq_getElem?_getD, List.getElem?_eq_getElem hlt2']
          obtain ⟨x, hx⟩ : ∃ x, x = d.toNat := ⟨_, rfl⟩
          rw [← hx] at hnx2
          have HX := Aside0.mk hx
          have HD := Aside0.mk hgd
          have HDM := Aside0.mk hdm
          clear hx hgd hdm hdec hsc hd hwm HI1 HI2 HB3 hlt2'
          by_cases hrx : r = x
          · subst hrx
            have HR : Aside0 (anyIn s.data.toList q.data.toList = true) := ⟨HHIT.out ⟨d, HDM.out, HX.out.symm⟩⟩
            go_wp2
            go_ret
            exact ⟨pos, rfl, by rw [HR.out]; exact decide_eq_true (by omega), HB3'.out⟩
          · have hrx' : ¬ (r : Int) = (x : Int) := by omega
            go_wp2
            go_roundw
            case rel => exact ⟨p2 + 1, by omega, HI1', HI2', HB3', ⟨fun j hj => by
              by_cases hj2 : j < p2
              · exact HNE.out j hj2
              · obtain rfl : j = p2 := by omega
                rw [HD.out, ← HX.out]
                exact fun e => hrx e.symm⟩⟩
            case measure => rw [HME2.out, show wm.iterPos wn.heap.size = p2 + 1 by simp only [World.iterPos, HI2'.out]]; omega
        · have hnx2 : ∀ ty, (Instr.next (.pointer (some ⟨wn.heap.size, 0, none⟩)) true ty).run Try.prog wr = _ := fun ty => Lib.run_next_end_at wr wn.heap.size q p2 ty HI2.out hlt2
          have HN2 : Aside0 (NoTo s.data.toList q.data.toList (pos + n)) := ⟨HSTEP.out fun c hc => by
            obtain ⟨i, hi, rfl⟩ := List.mem_iff_getElem.1 hc
            have := HNE.out i (by rw [size_l] at hi; omega)
            simpa [List.getD_eq_getElem?_getD, List.getElem?_eq_getElem hi] using this⟩
          go_wp2
          go_roundw
          case rel => exact ⟨pos + n, hn2, HI1, HB3, HN2⟩
          case measure => rw [HME.out, show wr.iterPos w.heap.size = pos + n by simp only [World.iterPos, HI1.out]]; omega
    · have hnx : ∀ ty, (Instr.next (.pointer (some ⟨w.heap.size, 0, none⟩)) true ty).run Try.prog wr = _ := fun ty => Lib.run_next_end_at wr w.heap.size s pos ty HIT.out hlt
      have HR : Aside0 (anyIn s.data.toList q.data.toList = false) := ⟨any_end (fun j hj => HNO.out j (by rw [size_l] at hj; omega))⟩
      go_wp2
      go_ret
      exact ⟨-1, rfl, by rw [HR.out]; rfl, HB.out⟩
set_option maxRecDepth 100000 in
theorem containsAny (s q : ByteArray) (b : Bool) (hb : anyIn s.data.toList q.data.toList = b) (hs : s.size ≤ 1099511627776) (hqs : q.size ≤ 1000000) (hq : ∀ c ∈ q.data.toList, c.toNat < 128) (w : World) :
    Calls Try.prog 134 #[.string s, .string q] w fun e w' => e = .returned (.bool b) ∧ Below w.heap.size w w' := by
  have H := fun w => Aside0.mk (indexAny s q hs hqs hq w)
  have HB := Aside0.mk hb
  clear hq hb
  go_enter Try.func134, Try.ntmps134
  go_wp2_with (go_at_call 144; refine (H _).out.mono ?_; rintro e w' ⟨x, rfl, hx, hbl⟩; have HX := Aside0.mk hx; clear hx)
  go_ret
  exact ⟨by have := HX.out; rw [HB.out] at this; rw [← this]; rfl, hbl⟩
end Go.Proofs.Ytjoagjkmghmnnaa.AnyOf
