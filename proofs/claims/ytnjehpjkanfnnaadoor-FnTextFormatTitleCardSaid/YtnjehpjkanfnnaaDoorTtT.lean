/-
  Proved: what text.toTitle, Format.Apply and impl.TextFormat return of a text of letters of ASCII and blanks in the form of a title. Conditions: those alone, under 2^40 bytes.
-/
import Derived.Test.YtnjehpjkanfnnaaDoorTtN
import Derived.Test.YtnjehpjkanfnnaaDoorTtC
import Derived.Test.YtnjehpjkanfnnaaDoorTtP
namespace Go.Proofs.YtnjehpjkanfnnaaDoor.TtT
open Go Go.RowKit Go.Proofs.YtnjehpjkanfnnaaDoor.TtM Go.Proofs.YtnjehpjkanfnnaaDoor.TtN Go.Proofs.YtnjehpjkanfnnaaDoor.TtC Go.Proofs.YtnjehpjkanfnnaaDoor.TtP
set_option linter.unusedVariables false
set_option linter.unusedSimpArgs false
set_option maxRecDepth 1000000
def QL (r : Int) : Prop := r = 32 ∨ (97 ≤ r ∧ r ≤ 122) ∨ (65 ≤ r ∧ r ≤ 90)
def gT (p : Int) (x : Nat) : Int := if p = 32 then upI x else x
theorem let_nat (b : UInt8) (h : let_ b) : QL ((b.toNat : Nat) : Int) := by
  unfold let_ at h
  simp only [UInt8.le_iff_toNat_le, ← UInt8.toNat_inj] at h
  unfold QL
  simp at h
  omega
theorem dec_one (b : UInt8) (l : List UInt8) (h : b.toNat < 128) : Lib.decodeL (b :: l) = (b.toNat, 1) := by
  rw [Lib.decodeL_N]
  simp [Lib.decodeN, h]
theorem rs_ascii : ∀ (l : List UInt8), (∀ b ∈ l, let_ b) → RsOf l (l.map UInt8.toNat)
  | [], _ => .nil
  | b :: l, h => by
    have hb := let_nat b (h b (by simp))
    have hd := dec_one b l (by unfold QL at hb; omega)
    have := RsOf.cons (b :: l) (l.map UInt8.toNat) (by simp) (by rw [hd]; exact rs_ascii l (fun x hx => h x (by simp [hx]))) (by rw [hd]; unfold QL at hb; simp; omega)
    rw [hd] at this
    exact this
theorem upI_up (b : UInt8) : upI ((b.toNat : Nat) : Int) = ((upB b).toNat : Int) := by
  unfold upI upB
  have h1 : (97 ≤ ((b.toNat : Nat) : Int) ∧ ((b.toNat : Nat) : Int) ≤ 122) ↔ (97 ≤ b ∧ b ≤ 122) := by
    simp only [UInt8.le_iff_toNat_le]
    simp
    omega
  split
  · rename_i h
    rw [if_pos (h1.1 h), UInt8.toNat_sub_of_le _ _ (by rw [UInt8.le_iff_toNat_le]; simp; omega)]
    simp
    omega
  · rename_i h
    rw [if_neg (fun e => h (h1.2 e))]
theorem enc_one (b : UInt8) (h : b.toNat < 128) : Lib.encodeRune ((b.toNat : Nat) : Int) = [b] := by
  unfold Lib.encodeRune
  rw [Lib.encodeRuneZ_one (by omega) (by omega)]
  simp
theorem up_small (b : UInt8) (h : b.toNat < 128) : (upB b).toNat < 128 := by
  have := upI_up b
  unfold upI at this
  split at this <;> omega
theorem map_title : ∀ (l : List UInt8) (p : UInt8), (∀ b ∈ l, let_ b) → mapR gT ((p.toNat : Nat) : Int) (l.map UInt8.toNat) = titleL p l
  | [], _, _ => rfl
  | b :: l, p, h => by
    have hb := let_nat b (h b (by simp))
    have hs : b.toNat < 128 := by unfold QL at hb; omega
    rw [List.map_cons, mapR, titleL, map_title l b (fun x hx => h x (by simp [hx]))]
    unfold gT
    have hp : (((p.toNat : Nat) : Int) = 32) ↔ p = 32 := by
      rw [← UInt8.toNat_inj]
      simp
      omega
    by_cases h32 : p = 32
    · rw [if_pos (hp.2 h32), if_pos h32, upI_up, enc_one _ (up_small b hs)]
      rfl
    · rw [if_neg (fun e => h32 (hp.1 e)), if_neg h32, enc_one _ hs]
      rfl
theorem clo (bi bp : Nat) (hne : bi ≠ bp) : Clo bi bp QL gT := by
  intro W p x hp hx hi hq
  have hq1 : W.cell? ⟨bp, 0, none⟩ = some (.int .i32 p) := by rw [Lib.cell_of_heap hq]; rfl
  have hi1 : W.cell? ⟨bi, 0, none⟩ = some (.bool false) := by rw [Lib.cell_of_heap hi]; rfl
  have hf1 : W.frozen? ⟨bp, 0, none⟩ = false := by simp [World.frozen?, hq]
  have hi2 : (W.setCell ⟨bp, 0, none⟩ (.int .i32 (x : Int))).heap[bi]? = some (.cells #[.bool false] 4 (0, 0)) := by
    rw [Below.heap_setCell _ _ _ _ hne]; exact hi
  refine (clo_c W x p bi bp hx hp hi1 hq1 hf1 (by rw [Lib.cell_of_heap hi2]; rfl)).mono ?_
  rintro e w' ⟨rfl, rfl⟩
  refine ⟨rfl, ⟨rfl, rfl, rfl, by simp [World.setCell], fun k _ hk => Below.heap_setCell _ _ _ _ (fun e => hk (by rw [e]))⟩, ?_⟩
  simp [World.setCell, Array.getElem?_modify, hq]
set_option maxHeartbeats 4000000 in
theorem toTitle_c (s : ByteArray) (hsz : s.size < 35184372088832) (hl : ∀ b ∈ s.data.toList, let_ b) (w : World) :
    Calls Tryd.prog 16 #[.string s] w fun e w' => e = .returned (.string ⟨(titleL 32 s.data.toList).toArray⟩) ∧ Below w.heap.size w w' := by
  have hc := fun (W : World) (hv : Vars w.heap.size (w.heap.size + 1) w.heap.size w 32 W) => map_c w.heap.size (w.heap.size + 1) w.heap.size w QL gT (clo _ _ (by omega))
    (fun p x hp hx => by unfold gT upI; unfold QL at hx; split <;> (try split) <;> omega) (by omega) (by omega) (by omega) s _ 32 W hsz (rs_ascii _ hl)
    (fun r hr => by obtain ⟨b, hb, rfl⟩ := List.mem_map.1 hr; exact let_nat b (hl b hb)) (Or.inl rfl) hv
  rw [show (32 : Int) = (((32 : UInt8).toNat : Nat) : Int) from rfl, map_title _ _ hl] at hc
  go_enter Tryd.func16, Tryd.ntmps16
  have hV : Vars w.heap.size (w.heap.size + 1) w.heap.size w (((32 : UInt8).toNat : Nat) : Int) ((w.alloc (.cells #[.int .i32 32] 21)).alloc (.cells #[.bool false] 4)) := by
    refine ⟨?_, ?_, ((Below.refl _ w).alloc (Nat.le_refl _) _).alloc (by simp) _⟩
    · have := heap_alloc_new (w.alloc (.cells #[.int .i32 32] 21)) (.cells #[.bool false] 4)
      simpa using this
    · have h1 := heap_alloc_new w (.cells #[.int .i32 32] 21)
      exact (Below.heap_alloc _ _ _ (by simp)).trans h1
  go_wp2_with (go_at_call 24; refine (hc _ hV).mono ?_; rintro e w2 ⟨rfl, hb⟩)
  go_ret
  exact ⟨rfl, hb⟩
set_option maxHeartbeats 4000000 in
theorem apply_c (s : ByteArray) (hsz : s.size < 35184372088832) (hl : ∀ b ∈ s.data.toList, let_ b) (w : World) :
    Calls Tryd.prog 12 #[.int .i64 2, .string s] w fun e w' => e = .returned (.string ⟨(titleL 32 s.data.toList).toArray⟩) ∧ Below w.heap.size w w' := by
  go_enter Tryd.func12, Tryd.ntmps12
  go_wp2_with (go_at_call 16; refine (toTitle_c s hsz hl w).mono ?_; rintro e w2 ⟨rfl, hb⟩)
  go_ret
  exact ⟨rfl, hb⟩
set_option maxHeartbeats 4000000 in
theorem format_c (s : ByteArray) (hsz : s.size < 35184372088832) (hl : ∀ b ∈ s.data.toList, let_ b) (w : World) :
    Calls Tryd.prog 6 #[.int .i64 2, .string s] w fun e w' => e = .returned (.string ⟨(titleL 32 s.data.toList).toArray⟩) ∧ Below w.heap.size w w' := by
  go_enter Tryd.func6, Tryd.ntmps6
  go_wp2_with (go_at_call 12; refine (apply_c s hsz hl w).mono ?_; rintro e w2 ⟨rfl, hb⟩)
  go_ret
  exact ⟨rfl, hb⟩
end Go.Proofs.YtnjehpjkanfnnaaDoor.TtT
