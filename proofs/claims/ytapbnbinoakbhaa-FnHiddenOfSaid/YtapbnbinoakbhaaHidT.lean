/-
  Proved: table.zzTexts hands on rows of the call's own. Conditions: at most 100 rows.
-/
import Derived.Test.YtapbnbinoakbhaaHidC
namespace Go.Proofs.Ytapbnbinoakbhaa.HidT
open Go.RowKit Go.Proofs.YtapbnbinoakbhaaW.PrintWords Go.Proofs.Ytapbnbinoakbhaa.Common Go.Proofs.Ytapbnbinoakbhaa.GEZ Go.Proofs.Ytapbnbinoakbhaa.HidB
set_option linter.unusedVariables false
set_option linter.unusedSimpArgs false
set_option maxRecDepth 1000000

theorem zip_take (l : List (List ByteArray)) (q : Nat) (h : q < l.length) : l.zipIdx.take q ++ [(rd_L1 l (q : Int), q)] = l.zipIdx.take (q + 1) := by
  have h2 : q < l.zipIdx.length := by simpa using h
  rw [List.take_succ_eq_append_getElem h2]
  congr 1
  simp [rd_L1, List.getD_eq_getElem?_getD, List.getElem?_eq_getElem h]
set_option maxHeartbeats 8000000 in
theorem texts_c (base : Nat) (ok : Nat → Prop) (A0 : Option Addr) (c0 : Nat) (l0 : List (List ByteArray)) (w : World) (h : Kd.S (Kd.slice 9 Kd.string) 162 w base ok (.slice A0 l0.length c0) l0) (hb : base ≤ w.heap.size) (hl : l0.length ≤ 100) :
    Calls Try.prog 65 #[.slice A0 l0.length c0] w fun e w' => ∃ v, e = .returned v ∧ Kd.S (Kd.slice 9 Kd.string) 109 w' base (fun _ => True) v l0 ∧ Below w.heap.size w w' := by
  obtain ⟨f, hR⟩ := h
  have HG : ∀ q : Nat, q < l0.length → Aside0 (∃ ad A n c, A0 = some ad ∧ w.cell? (ad.add q) = some (.slice A n c) ∧ (Kd.tag f (Kd.slice 9 Kd.string)).M w base (fun k => k < w.heap.size) (rd_L1 l0 (q : Int), q) [.slice A n c]) := by
    intro q hq
    refine ⟨?_⟩
    cases A0 with
    | none =>
      have := (Kd.R_reads' hR).2.2
      rw [List.length_zipIdx] at this
      obtain ⟨ad, _, e, _⟩ := Kd.C_get this ([], 0) (q : Int) (by omega) (by omega)
      cases e
    | some ad =>
      obtain ⟨c, hcl, hM, hcc⟩ := Kd.R_getA hR ([], 0) (q : Int) (by omega) (by omega)
      have he : l0.zipIdx.getD (q : Int).toNat ([], 0) = (rd_L1 l0 (q : Int), q) := by
        simp [rd_L1, List.getD_eq_getElem?_getD, List.getElem?_eq_getElem hq]
      rw [he] at hM
      have hM2 := (Kd.tag f (Kd.slice 9 Kd.string)).M_mono (ok' := fun k => k < w.heap.size) (fun k hk => hk.2.2.1) ((Kd.tag f (Kd.slice 9 Kd.string)).M_bound hM)
      obtain ⟨A, c1, rfl, _⟩ : ∃ A c1, c = [.slice A (rd_L1 l0 (q : Int)).length c1] ∧ True := by
        obtain ⟨A, c1, e, _⟩ := (Kd.tag f (Kd.slice 9 Kd.string)).K_of_M hM2
        exact ⟨A, c1, e, trivial⟩
      have h0 := hcc 0 _ rfl
      rw [Int.toNat_natCast, show ((Kd.tag f (Kd.slice 9 Kd.string))).sz = 1 from rfl, Nat.mul_one, Nat.add_zero] at h0
      exact ⟨ad, A, _, c1, rfl, h0, hM2⟩
  have HB0 := Aside0.mk hb
  clear hR hb
  go_enter Try.func65, Try.ntmps65
  go_wp2
  go_loopw [3, 8] (fun v3 i wr => ∃ (q : Nat) (u3 : Value), Value.int .i64 (q : Int) = i ∧ u3 = v3 ∧ q ≤ l0.length ∧ Aside0 ((Kd.tag f (Kd.slice 9 Kd.string)).R 109 wr base (fun _ => True) u3 (l0.zipIdx.take q) ∧ (∀ k, u3.ownBlock = some k → w.heap.size ≤ k) ∧ Below w.heap.size w wr)) (fun _ i _ => l0.length - (intOf i).toNat)
  case atStart => exact ⟨0, _, rfl, rfl, by omega, ⟨Kd.R_nil _ _ _ _ _, fun k hk => by simp [Value.ownBlock] at hk, Below.refl _ _⟩⟩
  case round =>
    obtain ⟨q, u3, rfl, rfl, hq, HS⟩ := hrel
    by_cases hlt : q < l0.length
    · obtain ⟨ad, A, n, c, rfl, hc0, hM⟩ := (HG q hlt).out
      have hc1 : wr.cell? (ad.add q) = some (.slice A n c) := pw_cell_below HS.out.2.2 hc0
      have HM : Aside0 ((Kd.tag f (Kd.slice 9 Kd.string)).M wr base (fun k => k < w.heap.size) (rd_L1 l0 (q : Int), q) [.slice A n c]) := ⟨(Kd.tag f (Kd.slice 9 Kd.string)).M_move (fun k hk => HS.out.2.2.block k hk) hM⟩
      have HZ := Aside0.mk (zip_take l0 q hlt)
      have HL8 : Aside0 (((l0.zipIdx.take q).length + 1) * 24 ≤ 140737488355328) := ⟨by rw [List.length_take]; omega⟩
      clear hc0 hM HG
      go_wp2_with (first
        | ((with_reducible refine gate_builtin (b := .append) (xs := #[.tmp 12, .tmp 14]) rfl ?_); at_builtin; refine Kd.R_append (Kd.tag f (Kd.slice 9 Kd.string)) (w0 := _) base rfl (.tmp 12) (.tmp 14) 43 109 (.slice none 0 0) 24 rfl Try.underlying43 info109 rfl Nat.zero_lt_one (by decide) u3 (l0.zipIdx.take q) (rd_L1 l0 (q : Int), q) [.slice A n c] (fun _ => True) (fun k => k < w.heap.size) rfl rfl HM.out (fun k hk => ⟨trivial, fun e => absurd (HS.out.2.1 k e.symm) (Nat.not_le.2 hk)⟩) (fun _ _ => trivial) HS.out.1 (Below.refl _ _) (Nat.le_trans HB0.out HS.out.2.2.size) HL8.out ?_; intro v1 w1 ho hb hg hat; rw [HZ.out] at ho; have HO1 := Aside0.mk ho; have HG1 := Aside0.mk (And.intro hg hat); clear ho hb hg hat))
      have HE : Aside0 ((Kd.tag f (Kd.slice 9 Kd.string)).R 109 w1 base (fun _ => True) v1 (l0.zipIdx.take (q + 1)) ∧ (∀ k, v1.ownBlock = some k → w.heap.size ≤ k) ∧ Below w.heap.size w w1) := ⟨HO1.out, fun k hk => by
        rcases HG1.out.2 with e | ⟨b, e, hle⟩
        · exact HS.out.2.1 k (e ▸ hk)
        · rw [e] at hk
          injection hk with hk
          have := HS.out.2.2.size
          omega, HS.out.2.2.grown HG1.out.1 HS.out.2.2.size HS.out.2.1⟩
      go_roundw
      case rel => exact ⟨q + 1, _, by go_num, rfl, by omega, HE⟩
      case measure => simp [intOf]; omega
    · obtain rfl : q = l0.length := by omega
      have HE : Aside0 (Kd.S (Kd.slice 9 Kd.string) 109 wr base (fun _ => True) u3 l0) := ⟨⟨f, by
        have := HS.out.1
        rwa [List.take_of_length_le (by simp)] at this⟩⟩
      go_wp2
      go_ret
      exact ⟨_, rfl, HE.out, HS.out.2.2⟩
end Go.Proofs.Ytapbnbinoakbhaa.HidT
