/-
  Proved: the plain law behind Rows.FnTextEscapeStripUptoCardSaid, over lists alone. Conditions: the pieces hold at most 1048576 codes and bytes together.
-/
import Derived.Test.YtkfkhafmgndgaaaRRDoorPureT
import Derived.Test.YtkfkhafmgndgaaaRRDoorSeg
namespace Go.Proofs.YtkfkhafmgndgaaaRRDoor.PureFnTextEscapeStrip
set_option linter.unusedVariables false
set_option linter.unusedSimpArgs false
open Go.RowKit Go.Proofs.YtkfkhafmgndgaaaRRDoorW.PrintWords Go.Proofs.YtkfkhafmgndgaaaRRDoor.GT Go.Proofs.YtkfkhafmgndgaaaRRDoor.Given Go.Proofs.YtkfkhafmgndgaaaRRDoor.Given2 Go.Proofs.YtkfkhafmgndgaaaRRDoor.PureT Go.Proofs.YtkfkhafmgndgaaaRRDoor.Color Go.Proofs.YtkfkhafmgndgaaaRRDoor.Common Go.Proofs.YtkfkhafmgndgaaaRRDoor.Seg Go.Proofs.YtkfkhafmgndgaaaRRDoor.StripPlain Go.Proofs.YtkfkhafmgndgaaaRRDoor.Simple Go.Proofs.YtkfkhafmgndgaaaRRDoor.Strip

theorem no27 (f : Nat) : ∀ l : List UInt8, simpleL true f l = true → l.length ≤ f → ∀ x ∈ l, x ≠ (27 : UInt8) := by
  induction f with
  | zero =>
    intro l _ hl x hx
    obtain rfl : l = [] := List.length_eq_zero_iff.1 (by omega)
    cases hx
  | succ f ih =>
    intro l hs hl x hx
    have hne : l ≠ [] := by rintro rfl; cases hx
    unfold simpleL at hs
    rw [if_neg hne] at hs
    split at hs
    · rename_i hk
      have hr : (Lib.decodeL l).1 ≠ 27 ∧ (Lib.decodeL l).1 ≠ 65533 := by
        rcases hk with h | ⟨_, h⟩
        · exact known_no _ h
        · rw [h]; omega
      have hw := Lib.decodeL_width l
      have hlen := List.length_pos_iff.2 hne
      have hrest := ih (l.drop (Lib.decodeL l).2) hs (by rw [List.length_drop]; omega)
      rw [← List.take_append_drop (Lib.decodeL l).2 l] at hx
      rcases List.mem_append.1 hx with hx | hx
      · rw [Lib.decodeL_N] at hr hx
        rintro rfl
        obtain ⟨h0, e⟩ | ⟨h0, h1, h2, h3, e⟩ | ⟨h0, h1, h2, h3, h4, h5, e⟩ | ⟨h0, h1, h2, h3, h4, h5, h6, e⟩ | e := Lib.decodeN_shape l.length (l.getD 0 0).toNat (l.getD 1 0).toNat (l.getD 2 0).toNat (l.getD 3 0).toNat
        · rw [e] at hr hx
          rw [Lib.takeA l hlen] at hx
          simp only [List.mem_cons, List.mem_nil_iff, or_false] at hx
          rw [← hx] at hr; exact hr.1 rfl
        · rw [e] at hx
          rw [Lib.takeB l (by omega)] at hx
          simp only [List.mem_cons, List.mem_nil_iff, or_false] at hx
          rcases hx with hx | hx <;> (have h27 : (27 : UInt8).toNat = 27 := rfl; have h28 := congrArg UInt8.toNat hx; rw [h27] at h28; omega)
        · rw [e] at hx
          rw [Lib.takeC l (by omega)] at hx
          simp only [List.mem_cons, List.mem_nil_iff, or_false] at hx
          rcases hx with hx | hx | hx <;> (have h27 : (27 : UInt8).toNat = 27 := rfl; have h28 := congrArg UInt8.toNat hx; rw [h27] at h28; omega)
        · rw [e] at hx
          rw [Lib.takeD l (by omega)] at hx
          simp only [List.mem_cons, List.mem_nil_iff, or_false] at hx
          rcases hx with hx | hx | hx | hx <;> (have h27 : (27 : UInt8).toNat = 27 := rfl; have h28 := congrArg UInt8.toNat hx; rw [h27] at h28; omega)
        · rw [e] at hr; exact hr.2 rfl
      · exact hrest x hx
    · cases hs
def WL : List S46 → List UInt8
  | [] => []
  | p :: l => (seqB p.f0).data.toList ++ (p.f1.data.toList ++ WL l)
def PL : List S46 → List UInt8
  | [] => []
  | p :: l => p.f1.data.toList ++ PL l
theorem wr_list (l : List S46) : ∀ acc, (wr l acc).data.toList = acc.data.toList ++ WL l := by
  induction l with
  | nil => intro acc; simp [wr, WL]
  | cons p l ih => intro acc; rw [wr, ih, WL]; simp [ByteArray.data_append]
theorem pl_list (l : List S46) : ∀ acc, (pl l acc).data.toList = acc.data.toList ++ PL l := by
  induction l with
  | nil => intro acc; simp [pl, PL]
  | cons p l ih => intro acc; rw [pl, ih, PL]; simp [ByteArray.data_append]
theorem seg_pieces (l : List S46) (hok : ∀ p ∈ l, PieceOk true p) : Seg (WL l) (PL l) := by
  induction l with
  | nil => exact .nil
  | cons p l ih =>
    have hp := hok p (by simp)
    have h := ih (fun q hq => hok q (by simp [hq]))
    have hs := hp.simple
    rw [simple_eq, ← size_l] at hs
    have h2 : Seg (p.f1.data.toList ++ WL l) (PL (p :: l)) := .txt _ _ _ hs (no27 _ _ hs (Nat.le_refl _)) h
    rw [WL]
    rcases seqB_bytes p.f0 (fun c hc => (hp.codes c hc).1) with e | ⟨m, e, hM⟩
    · rw [e]; exact h2
    · rw [e]
      have := Seg.seq m _ _ hM h2
      simpa using this
theorem reset_mid : ∀ x ∈ ([91, 48] : List UInt8), Mid x := by
  intro x hx
  simp only [List.mem_cons, List.mem_nil_iff, or_false] at hx
  rcases hx with rfl | rfl <;> exact ⟨by decide, by decide, by decide⟩
theorem seg_esc (s P q m : List UInt8) (hq : q = 27 :: (m ++ [109])) (hm : ∀ x ∈ m, Mid x) (h : Seg s P) : Seg (Esc.esc s q) P := by
  have hR : Esc.reset = 27 :: ([91, 48] ++ [109]) := rfl
  have sR : Seg Esc.reset [] := by rw [hR]; exact .seq _ _ _ reset_mid .nil
  have sq : Seg q [] := by rw [hq]; exact .seq _ _ _ hm .nil
  have sRq : Seg (Esc.reset ++ q) [] := sR.app sq
  have hT : ∀ n, Seg (Repl.replL Esc.reset (Esc.reset ++ q) n s) P := seg_repl Esc.reset (Esc.reset ++ q) _ hR sRq (fun l P h hp => pre_one [91, 48] reset_mid l P h hp) h
  have h1 : Seg (Esc.esc1 s q) P := by
    unfold Esc.esc1
    split
    · exact hT _
    · exact sq.app (hT _)
  have h2 : Seg (Esc.esc2 s q) P := by
    unfold Esc.esc2
    split
    · exact h1
    · have := h1.app sR
      simpa using this
  unfold Esc.esc
  split
  · refine seg_repl (q ++ Esc.reset) [] (m ++ [109] ++ Esc.reset) (by rw [hq]; simp) .nil (fun l P h hp => ?_) h2 _
    rw [hq, hR] at hp ⊢
    exact pre_two m [91, 48] hm reset_mid l P h hp
  · exact h2

theorem esc_len (s q : List UInt8) (hs : s.length ≤ 100000) (hq : q.length ≤ 100000) : (Esc.esc s q).length ≤ 20000000004 := by
  have ht := Esc.repl_len Esc.reset (Esc.reset ++ q) (by decide) s.length s
  have hmul2 : s.length * ((Esc.reset ++ q).length + 1) ≤ 100000 * 100005 := Nat.mul_le_mul hs (by rw [List.length_append]; show 4 + q.length + 1 ≤ _; omega)
  have hc1 : (Esc.esc1 s q).length ≤ 20000000000 := by
    unfold Esc.esc1
    split
    · omega
    · rw [List.length_append]; omega
  have hc2 : (Esc.esc2 s q).length ≤ 20000000004 := by
    unfold Esc.esc2
    split
    · omega
    · rw [List.length_append]; show _ + 4 ≤ _; omega
  unfold Esc.esc
  split
  · have := Esc.repl_len (q ++ Esc.reset) [] (by rw [List.length_append]; show 0 < q.length + 4; omega) (Esc.esc2 s q).length (Esc.esc2 s q)
    simp only [List.length_nil, Nat.zero_add, Nat.mul_one] at this
    omega
  · exact hc2
theorem pure (l : List S46) (a : Int) (hm : ms l ≤ 1048576) (hc : ∀ p ∈ l, ∀ c ∈ p.f0, I64 c) : ∃ k, laws_FnTextEscapeStrip.f k l a = some true := by
  refine Ev.rounds ?_
  have hll := ms_len l
  obtain ⟨t, ht⟩ := fits_loop l (by omega) l.length 0 (by omega)
  obtain ⟨b, hb, hQ⟩ := good_loop true l (by omega) l.length 0 (by omega)
  have h1 : Ev (fun k => laws_zzFits15.f k l) t := Ev.congr (f := fun k => laws_zzFits15.l0 k l (l.length : Int) ((0 : Nat) : Int)) (fun k => by unfold laws_zzFits15.f; rw [if_neg (by omega)]; rfl) ht
  have h2 : Ev (fun k => spec_TxGood.f k l true) b := hb
  have h0 : (⟨#[]⟩ : ByteArray).size = 0 := rfl
  have hw : Ev (fun k => spec_TxWritten.f k l) (wr l ⟨#[]⟩) := wr_loop' l hm hc l.length 0 ⟨#[]⟩ (by omega) (by rw [List.drop_zero]; omega)
  unfold laws_FnTextEscapeStrip.f
  refine Ev.bind h1 ?_
  cases t
  · exact Ev.now true
  · simp only [if_true]
    refine Ev.bind hw ?_
    refine Ev.bind h2 ?_
    cases b
    · exact Ev.now true
    · simp only [if_true]
      obtain ⟨h40, hall⟩ := hQ rfl
      have hok : ∀ p ∈ l, PieceOk true p := fun p hp => by
        obtain ⟨j, hj, rfl⟩ := List.getElem_of_mem hp
        exact hall j (Nat.zero_le _) hj
      obtain ⟨v, hv, hV⟩ := attr a
      rw [hv]
      simp only [Option.bind_some]
      cases v
      · exact Ev.now true
      · simp only [if_true]
        have ha := hV rfl
        have hq : Ev (fun k => spec_TxSequence.f k [a]) (seqB [a]) := seq_ev [a] (by simp) (fun c hc => by simp at hc; subst hc; exact ha)
        obtain ⟨m, hqm, hM⟩ : ∃ m, (seqB [a]).data.toList = 27 :: (m ++ [109]) ∧ ∀ x ∈ m, Mid x := by
          rcases seqB_bytes [a] (fun c hc => by simp at hc; subst hc; exact ha.1) with e | h
          · exfalso
            have e2 : seqB [a] = seqT 0 [a] ⟨#[27, 91]⟩ ++ ⟨#[109]⟩ := by unfold seqB; rw [if_neg (by simp)]
            rw [e2, ByteArray.data_append] at e
            simp at e
          · exact h
        have hql : (seqB [a]).size ≤ 100 := seqB_size [a] (fun c hc => by simp at hc; subst hc; unfold I64; omega) (by simp)
        have hq0 : 0 < (seqB [a]).size := by rw [← size_l, hqm]; simp
        have hsz := wr_size true l hok ⟨#[]⟩
        have hX : impl_TextEscape.f (wr l ⟨#[]⟩) (seqB [a]) = some (ofL (Esc.esc (wr l ⟨#[]⟩).data.toList (seqB [a]).data.toList)) := by
          unfold impl_TextEscape.f text_Escape.f
          rw [if_pos ⟨by omega, by omega, hq0⟩]
          rfl
        refine Ev.bind hq ?_
        rw [hX]
        simp only [Option.bind_some]
        have hWL : (wr l ⟨#[]⟩).data.toList = WL l := by rw [wr_list]; rfl
        have hseg := seg_esc (WL l) (PL l) _ m hqm hM (seg_pieces l hok)
        have hlen := esc_len (WL l) (seqB [a]).data.toList (by rw [← hWL, size_l]; omega) (by rw [size_l]; omega)
        have hS : impl_TextStrip.f (ofL (Esc.esc (wr l ⟨#[]⟩).data.toList (seqB [a]).data.toList)) = some (pl l ⟨#[]⟩) := by
          unfold impl_TextStrip.f
          rw [hWL, if_pos (by rw [Esc.len_ofL]; omega), strip_eq, ofL_data, hseg.strip _ (by rw [Esc.len_ofL]; exact Nat.le_refl _)]
          have h2 := pl_list l ⟨#[]⟩
          have e : (⟨#[]⟩ : ByteArray).data.toList ++ PL l = PL l := rfl
          rw [e] at h2
          rw [← h2]
        rw [hS]
        simp only [Option.bind_some]
        have hp : Ev (fun k => spec_TxPlain.f k l) (pl l ⟨#[]⟩) := pl_loop true l h40 (fun j hj => hall j (Nat.zero_le _) hj) l.length 0 ⟨#[]⟩ (by omega) (Nat.zero_le _)
        refine Ev.bind hp ?_
        refine Ev.congr (f := fun _ => some true) (fun k => ?_) (Ev.now true)
        rw [beq_self_eq_true]
end Go.Proofs.YtkfkhafmgndgaaaRRDoor.PureFnTextEscapeStrip
