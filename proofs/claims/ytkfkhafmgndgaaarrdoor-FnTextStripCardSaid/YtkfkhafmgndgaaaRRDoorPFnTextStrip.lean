/-
  Proved: the plain law behind Rows.FnTextStripCardSaid, over lists alone. Conditions: none beyond the statement's own.
-/
import Derived.Test.YtkfkhafmgndgaaaRRDoorPureStrip
namespace Go.Proofs.YtkfkhafmgndgaaaRRDoor.PureFnTextStrip
set_option linter.unusedVariables false
open Go.RowKit Go.Proofs.YtkfkhafmgndgaaaRRDoorW.PrintWords Go.Proofs.YtkfkhafmgndgaaaRRDoor.GFnTextStrip Go.Proofs.YtkfkhafmgndgaaaRRDoor.Given Go.Proofs.YtkfkhafmgndgaaaRRDoor.PureStrip Go.Proofs.YtkfkhafmgndgaaaRRDoor.Strip

theorem pure (l : List S46) {q : Prop} (_h : q) : ∃ k, laws_FnTextStrip.f k l = some true := by
  refine Ev.rounds ?_
  by_cases hl : (l.length : Int) > 2147483647
  · refine Ev.congr (f := fun _ => some true) (fun k => ?_) (Ev.now true)
    unfold laws_FnTextStrip.f laws_zzFits15.f
    rw [if_pos hl]
    rfl
  · obtain ⟨t, ht⟩ := fits_loop l (by omega) l.length 0 (by omega)
    obtain ⟨b, hb, hQ⟩ := good_loop l (by omega) l.length 0 (by omega)
    have h1 : Ev (fun k => laws_zzFits15.f k l) t := Ev.congr (f := fun k => laws_zzFits15.l0 k l (l.length : Int) ((0 : Nat) : Int)) (fun k => by unfold laws_zzFits15.f; rw [if_neg hl]; rfl) ht
    have h2 : Ev (fun k => spec_TxGood.f k l true) b := hb
    unfold laws_FnTextStrip.f
    refine Ev.bind h1 ?_
    cases t
    · exact Ev.now true
    · simp only [if_true]
      refine Ev.bind h2 ?_
      cases b
      · exact Ev.now true
      · simp only [if_true]
        obtain ⟨h40, hall⟩ := hQ rfl
        have hok : ∀ p ∈ l, PieceOk p := fun p hp => by
          obtain ⟨j, hj, rfl⟩ := List.getElem_of_mem hp
          exact hall j (Nat.zero_le _) hj
        have hw := wr_loop l h40 (fun j hj => hall j (Nat.zero_le _) hj) l.length 0 ⟨#[]⟩ (by omega) (Nat.zero_le _)
        have hp := pl_loop l h40 (fun j hj => hall j (Nat.zero_le _) hj) l.length 0 ⟨#[]⟩ (by omega) (Nat.zero_le _)
        have hsz := wr_size l hok ⟨#[]⟩
        have h0 : (⟨#[]⟩ : ByteArray).size = 0 := rfl
        refine Ev.bind (a := wr l ⟨#[]⟩) hw ?_
        have hs : impl_TextStrip.f (wr l ⟨#[]⟩) = some (pl l ⟨#[]⟩) := by
          unfold impl_TextStrip.f
          rw [if_pos (by omega), strip_written l hok]
        rw [hs]
        simp only [Option.bind_some]
        refine Ev.bind (a := pl l ⟨#[]⟩) hp ?_
        refine Ev.congr (f := fun _ => some true) (fun k => ?_) (Ev.now true)
        rw [beq_self_eq_true]
end Go.Proofs.YtkfkhafmgndgaaaRRDoor.PureFnTextStrip
