/-
  Proved: the plain law behind Rows.FnTextColorEscapeUptoCardSaid, over lists alone. Conditions: the pieces hold at most 1048576 codes and bytes together.
-/
import Derived.Test.YtkfkhafmgndgaaaRRDoorPureT
namespace Go.Proofs.YtkfkhafmgndgaaaRRDoor.PureFnTextColorEscape
set_option linter.unusedVariables false
set_option linter.unusedSimpArgs false
open Go.RowKit Go.Proofs.YtkfkhafmgndgaaaRRDoorW.PrintWords Go.Proofs.YtkfkhafmgndgaaaRRDoor.GT Go.Proofs.YtkfkhafmgndgaaaRRDoor.Given Go.Proofs.YtkfkhafmgndgaaaRRDoor.Given2 Go.Proofs.YtkfkhafmgndgaaaRRDoor.PureT Go.Proofs.YtkfkhafmgndgaaaRRDoor.Color Go.Proofs.YtkfkhafmgndgaaaRRDoor.Common

def escS (c : Int) : ByteArray := (⟨#[27, 91]⟩ ++ decB c.toNat) ++ ⟨#[109]⟩
theorem escS_size (c : Int) (h : 0 ≤ c ∧ c ≤ 107) : (escS c).size ≤ 23 ∧ 0 < (escS c).size := by
  have hd := decB_size c.toNat (by omega)
  have h2 : (⟨#[27, 91]⟩ : ByteArray).size = 2 := rfl
  have h1 : (⟨#[109]⟩ : ByteArray).size = 1 := rfl
  unfold escS
  rw [ByteArray.size_append, ByteArray.size_append]
  omega
theorem esc_ev (c : Int) (h : 0 ≤ c ∧ c ≤ 107) : Ev (fun k => text_Color_EscapeSeq.f k c) (escS c) := by
  have hd := decB_size c.toNat (by omega)
  have h2 : (⟨#[27, 91]⟩ : ByteArray).size = 2 := rfl
  refine Ev.congr (f := fun k => text_Color_EscapeSeq.j0 k c false) (fun k => ?_) (Ev.step (f := fun k => text_Color_EscapeSeq.j1 k c false) (fun k => ?_) (Ev.step (f := fun _ => some (escS c)) (fun k => ?_) (Ev.now _)))
  · unfold text_Color_EscapeSeq.f
    rw [if_neg (by omega)]
  · rw [text_Color_EscapeSeq.j0, if_neg (by simp), if_neg (by omega)]
  · have hi : lightstrconv_Itoa.f c = some (decB c.toNat) := by unfold lightstrconv_Itoa.f; rw [if_pos ⟨by omega, by omega⟩]
    rw [text_Color_EscapeSeq.j1, if_neg (by simp), hi]
    simp only [Option.bind_some]
    rw [if_pos (by omega), if_pos (by rw [ByteArray.size_append]; omega)]
    rfl
theorem not_nil (s : ByteArray) (h : 0 < s.size) : ¬ s.toList = ([] : List UInt8) := by
  intro e
  rw [tl] at e
  have := size_l s
  rw [e] at this
  simp at this
  omega
theorem pure (a : Int) (l : List S46) (hm : ms l ≤ 1048576) (hc : ∀ p ∈ l, ∀ c ∈ p.f0, I64 c) : ∃ k, laws_FnTextColorEscape.f k a l = some true := by
  refine Ev.rounds ?_
  have hll := ms_len l
  obtain ⟨t, ht⟩ := fits_loop l (by omega) l.length 0 (by omega)
  obtain ⟨b, hb, hQ⟩ := good_loop false l (by omega) l.length 0 (by omega)
  have h1 : Ev (fun k => laws_zzFits15.f k l) t := Ev.congr (f := fun k => laws_zzFits15.l0 k l (l.length : Int) ((0 : Nat) : Int)) (fun k => by unfold laws_zzFits15.f; rw [if_neg (by omega)]; rfl) ht
  have h2 : Ev (fun k => spec_TxGood.f k l false) b := hb
  have hw : Ev (fun k => spec_TxWritten.f k l) (wr l ⟨#[]⟩) := wr_loop' l hm hc l.length 0 ⟨#[]⟩ (by omega) (by have h0 : (⟨#[]⟩ : ByteArray).size = 0 := rfl; rw [List.drop_zero]; omega)
  unfold laws_FnTextColorEscape.f
  refine Ev.bind h1 ?_
  cases t
  · exact Ev.now true
  · simp only [if_true]
    refine Ev.bind hw ?_
    refine Ev.bind h2 ?_
    cases b
    · exact Ev.now true
    · simp only [if_true]
      obtain ⟨h40, hall⟩ := hQ rfl
      have hok : ∀ p ∈ l, PieceOk false p := fun p hp => by
        obtain ⟨j, hj, rfl⟩ := List.getElem_of_mem hp
        exact hall j (Nat.zero_le _) hj
      obtain ⟨v, hv, hV⟩ := attr a
      rw [hv]
      simp only [Option.bind_some]
      cases v
      · exact Ev.now true
      · simp only [if_true]
        have ha := hV rfl
        have hE := esc_ev a ha
        obtain ⟨hs1, hs0⟩ := escS_size a ha
        have hsz := wr_size false l hok ⟨#[]⟩
        have h0 : (⟨#[]⟩ : ByteArray).size = 0 := rfl
        have hX : text_Escape.f (wr l ⟨#[]⟩) (escS a) = some (ofL (Esc.esc (wr l ⟨#[]⟩).data.toList (escS a).data.toList)) := by
          unfold text_Escape.f
          rw [if_pos ⟨by omega, by omega, hs0⟩]
        have hne := not_nil _ hs0
        have hS : Ev (fun k => impl_TextColorSeq.f k a) (escS a) := Ev.bind hE (Ev.now _)
        have hP : Ev (fun k => impl_TextColorPrint.f k a [wr l ⟨#[]⟩]) (ofL (Esc.esc (wr l ⟨#[]⟩).data.toList (escS a).data.toList)) := by
          have hJ : strings_Join.f [wr l ⟨#[]⟩] ⟨#[]⟩ = some (wr l ⟨#[]⟩) := rfl
          have hS2 : Ev (fun k => text_Color_Sprint.f k a [wr l ⟨#[]⟩]) (ofL (Esc.esc (wr l ⟨#[]⟩).data.toList (escS a).data.toList)) := by
            unfold text_Color_Sprint.f
            rw [hJ]
            simp only [Option.bind_some]
            refine Ev.bind hE ?_
            refine Ev.congr (f := fun _ => some (ofL (Esc.esc (wr l ⟨#[]⟩).data.toList (escS a).data.toList))) (fun k => ?_) (Ev.now _)
            unfold text_colorize.f
            rw [if_neg hne, hX]
            rfl
          exact Ev.bind hS2 (Ev.now _)
        refine Ev.bind hP ?_
        refine Ev.bind hS ?_
        have hT : impl_TextEscape.f (wr l ⟨#[]⟩) (escS a) = some (ofL (Esc.esc (wr l ⟨#[]⟩).data.toList (escS a).data.toList)) := by
          unfold impl_TextEscape.f
          rw [hX]; rfl
        rw [hT]
        simp only [Option.bind_some, if_true]
        refine Ev.bind hS ?_
        refine Ev.congr (f := fun _ => some true) (fun k => ?_) (Ev.now true)
        have : ((escS a).toList != ([] : List UInt8)) = true := by simpa using hne
        rw [this]
end Go.Proofs.YtkfkhafmgndgaaaRRDoor.PureFnTextColorEscape
