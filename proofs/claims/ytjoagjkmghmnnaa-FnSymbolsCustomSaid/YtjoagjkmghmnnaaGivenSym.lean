/-
  Proved: what impl.TwSymbolsCustom returns: the name, and its symbols, the last one told for each place. Conditions: each place from 0 to 13, at least as many texts as places.
-/
import Derived.Test.YtjoagjkmghmnnaaGivenSym1
namespace Go.Proofs.Ytjoagjkmghmnnaa.GivenSym
open Go.RowKit Go.Proofs.YtjoagjkmghmnnaaW.PrintWords Go.Proofs.Ytjoagjkmghmnnaa.Common
set_option linter.unusedVariables false

theorem blk_of {w wr w2 : World} {o : Obj} (h : Below (w.heap.size + 1) (w.alloc o) wr) (h2 : Below wr.heap.size wr w2) : w2.heap[w.heap.size]? = some o := by
  have hs := h.size
  rw [World.size_alloc] at hs
  rw [h2.block _ (by omega), h.block _ (by omega), heap_alloc_new]
theorem froz_of {w : World} {g : Nat} {cs : Array Value} {t : TypeId} (h : w.heap[g]? = some (.cells cs t (0, 0))) (j : Nat) : w.frozen? ⟨g, j, none⟩ = false := by simp [World.frozen?, h]
set_option maxRecDepth 100000 in
set_option maxHeartbeats 4000000 in
theorem impl_TwSymbolsCustom.calls (a0 : ByteArray) (A1 : Option Addr) (c1 : Nat) (l1 : List Int) (A2 : Option Addr) (c2 : Nat) (l2 : List ByteArray) (r1 : ByteArray) (r2 : List ByteArray) (w : World)
    (hr1 : Kd.C (Kd.int .i64) w A1 l1.length l1) (hc1 : l1.length ≤ c1) (hr2 : Kd.C Kd.string w A2 l2.length l2) (hc2 : l2.length ≤ c2) (h : impl_TwSymbolsCustom.f a0 l1 l2 = some (r1, r2)) :
    Calls Try.prog 28 #[.string a0, .slice A1 l1.length c1, .slice A2 l2.length c2] w fun e w' => ∃ v1_ : Value, e = .returned (.agg #[.string r1, v1_]) ∧ Kd.R Kd.string 9 w' w.heap.size (fun _ => True) v1_ r2 ∧ Below w.heap.size w w' := by
  unfold impl_TwSymbolsCustom.f at h
  split at h
  · rename_i hcond
    obtain ⟨hin, hle⟩ := hcond
    have h := Option.some.inj h
    simp only [Prod.mk.injEq] at h
    obtain ⟨rfl, h⟩ := h
    have H := Aside0.mk h
    have HIN := Aside0.mk hin
    have R1 := Aside0.mk hr1
    have R2 := Aside0.mk hr2
    have HLE := hle
    clear h hin hr1 hr2
    have h1n : ∀ k : Nat, k < l1.length → 0 ≤ rd l1 k ∧ rd l1 k < 14 := fun k hk => HIN.out _ (by rw [rd_at l1 k hk]; exact List.getElem_mem _)
    have H1N := Aside0.mk h1n
    clear h1n
    go_enter Try.func28, Try.ntmps28
    go_wp2_with (go_at_call 56; refine (new_any _ _).mono ?_; rintro e w1 ⟨rfl, hs1, hb1⟩)
    rw [World.size_alloc] at hs1 hb1
    have HS := Aside0.mk hs1
    have HB := Aside0.mk hb1
    have HC := Aside0.mk (((Below.refl w.heap.size w).alloc (Nat.le_refl _) (Obj.cells #[Value.string ⟨#[]⟩, Value.slice none 0 0] 48)).trans (hb1.mono (by omega)))
    clear hs1 hb1
    have hlen : l1.length ≤ 9223372036854775807 := R1.out.2.1
    go_loopw [14] (fun i wr => ∃ k : Nat, k ≤ l1.length ∧ i = .int .i64 k ∧ ∃ p, Aside0 (symFold (l1.drop k) (l2.drop k) p = r2) ∧ Aside0 (SymB wr (w.heap.size + 1) a0 p) ∧ Aside0 (Below w.heap.size w wr) ∧ Aside0 (Below (w.heap.size + 1) (w.alloc (Obj.cells #[Value.string ⟨#[]⟩, Value.slice none 0 0] 48)) wr)) (fun i _ => l1.length - (intOf i).toNat)
    case atStart => exact ⟨0, Nat.zero_le _, rfl, sym0, ⟨by simpa using H.out⟩, HS, HC, HB⟩
    case round =>
      obtain ⟨k, hk, rfl, p, HF, HP, HB2, HB3⟩ := hrel
      by_cases hlt : k < l1.length
      · obtain ⟨ad1, rfl, hx1⟩ := Kd.at_int (Kd.C_below R1.out HB2.out) (k : Int) (by omega) (by omega)
        obtain ⟨ad2, rfl, hx2⟩ := Kd.at_string (Kd.C_below R2.out HB2.out) (k : Int) (by omega) (by omega)
        rw [Int.toNat_natCast] at hx1 hx2
        have hlt2 : k < l2.length := by omega
        have hn := H1N.out k hlt
        have C := Aside0.mk (custom_any (w.heap.size + 1) (rd l1 k) hn.1 hn.2 (rdOf ByteArray.empty l2 k) a0 p wr HP.out)
        have HF2 : Aside0 (symFold (l1.drop (k + 1)) (l2.drop (k + 1)) (p.set (rd l1 k).toNat (rdOf ByteArray.empty l2 k)) = r2) := by
          have h := HF.out
          rw [List.drop_eq_getElem_cons hlt, List.drop_eq_getElem_cons hlt2, symFold] at h
          rw [rd_at _ _ hlt, rdOf_at _ _ _ hlt2]
          exact ⟨h⟩
        clear hn H HF HP HS HB HC HLE HIN
        go_wp2_with (go_at_call 57; refine C.out.mono ?_; rintro e w2 ⟨rfl, hs2, hb2⟩)
        go_roundw
        case rel => exact ⟨k + 1, by omega, by go_num, _, HF2, ⟨hs2⟩, ⟨HB2.out.trans (hb2 _ (by omega))⟩, ⟨HB3.out.trans (hb2 _ (by omega))⟩⟩
        case measure => simp [intOf]; omega
      · obtain rfl : k = l1.length := by omega
        have HF2 : Aside0 (p = r2) := ⟨by
          have h := HF.out
          rw [List.drop_eq_nil_of_le (Nat.le_refl _)] at h
          exact h⟩
        clear H HF HS HB HC HLE HIN
        go_wp2_with (go_at_call 58; refine (symbols_any' (w.heap.size + 1) a0 p _ HP.out).mono ?_; rintro e w2 ⟨v, rfl, hR, hb2⟩; obtain ⟨Av, cv, rfl⟩ := Kd.R_slice hR; have HR := Aside0.mk hR; have HBB := Aside0.mk hb2; have hblk := blk_of HB3.out hb2; clear hR hb2; have hc0 := cell_of_row w2 w.heap.size 0 _ 48 (0, 0) hblk; have hc1' := cell_of_row w2 w.heap.size 1 _ 48 (0, 0) hblk; have hf0 := froz_of hblk 0; have hf1 := froz_of hblk 1; have HBK := Aside0.mk hblk; clear hblk)
        have hfin : ((w2.setCell ⟨w.heap.size, 0, none⟩ (.string a0)).setCell ⟨w.heap.size, 1, none⟩ (.slice Av p.length cv)).heap[w.heap.size]? = some (.cells #[.string a0, .slice Av p.length cv] 48 (0, 0)) := by
          have h := HBK.out
          simp [World.setCell, Array.getElem?_modify, h]
        refine bodyPost_ret (results_single (r := .cell 6 48) (v := .agg #[.string a0, .slice Av p.length cv]) rfl (.cell w.heap.size 48 #[.string a0, .slice Av p.length cv] (0, 0) _ rfl hfin Try.underlying48 rfl (by kernel_rfl) .nil)) rfl ⟨_, rfl, ?_, ?_⟩
        · rw [← HF2.out]
          have hsz := HB3.out.size
          rw [World.size_alloc] at hsz
          have hb := Kd.R_bound HR.out
          have hl := Kd.R_lower hb (show w.heap.size ≤ wr.heap.size by omega)
          have h1 := Kd.R_far (p := ⟨w.heap.size, 0, none⟩) hl (fun k hk => by have := hk.2.1; show k ≠ w.heap.size; omega) (.string a0)
          have h2 := Kd.R_far (p := ⟨w.heap.size, 1, none⟩) h1 (fun k hk => by have := hk.2.1; show k ≠ w.heap.size; omega) (.slice Av p.length cv)
          exact Kd.R_mono h2 (fun _ _ => trivial)
        · have hsz := HB2.out.size
          exact ((HB2.out.trans (HBB.out.mono (by omega))).setCell (p := ⟨w.heap.size, 0, none⟩) (Nat.le_refl _) _).setCell (p := ⟨w.heap.size, 1, none⟩) (Nat.le_refl _) _
  · cases h
end Go.Proofs.Ytjoagjkmghmnnaa.GivenSym
