/-
  Proved: the plain law behind Rows.FnGrownEvenSaid, over numbers and lists alone. Conditions: none beyond the statement's own.
-/
import Derived.Test.YtapbnbinoakbhaaRead
import Derived.Test.YtapbnbinoakbhaaGFnGrownEvenx1
namespace Go.Proofs.Ytapbnbinoakbhaa.PureFnGrownEven
set_option linter.unusedVariables false
open Go.RowKit Go.Proofs.YtapbnbinoakbhaaW.PrintWords Go.Proofs.Ytapbnbinoakbhaa.Common Go.Proofs.Ytapbnbinoakbhaa.Read Go.Proofs.Ytapbnbinoakbhaa.GFnGrownEven Go.Proofs.Ytapbnbinoakbhaa.GivenGrow Go.Proofs.Ytapbnbinoakbhaa.GrowP Go.Proofs.Ytapbnbinoakbhaa.GrowL

theorem jt (x0 : List Int) (x1 x2 : Int) : Ev (fun k => laws_FnGrownEven.j0 k x0 x1 x2 true) true :=
  Ev.step (f := fun _ => some true) (fun k => by simp only [laws_FnGrownEven.j0]; rfl) (Ev.now _)
theorem jf (l : List Int) (a1 a2 : Int) (hok : okg l [] a1 a2 = true) : Ev (fun k => laws_FnGrownEven.j0 k l a1 a2 false) true := by
  have h := even_loop laws_FnGrownEven.l0 (fun k x0 x1 x2 x7 x8 x9 => by simp only [laws_FnGrownEven.l0]) l a1 a2 hok l.length 0 (by omega)
  have e0 : ((0 * ((a2 - a1).toNat / l.length) + min 0 ((a2 - a1).toNat % l.length) : Nat) : Int) = 0 := by simp
  rw [e0] at h
  refine Ev.step (f := fun k => laws_FnGrownEven.l0 k l a1 a2 (grow l (a2 - a1).toNat) 0 0) (fun k => ?_) h
  simp only [laws_FnGrownEven.j0]
  unfold impl_Grown.f
  rw [if_neg (by decide), if_pos hok]
  show (if ((grow l (a2 - a1).toNat).length : Int) = (l.length : Int) then _ else _) = _
  rw [if_pos (by unfold grow; rw [L_len])]
theorem pure (l0 : List Int) (hg0 : (Goods (fun n => (Lit.int .i64 n).wf = true)) l0) (a1 : Int) (w1 : (Lit.int .i64 a1).wf = true) (a2 : Int) (w2 : (Lit.int .i64 a2).wf = true) : ∃ k, laws_FnGrownEven.f k l0 a1 a2 = some true := by
  by_cases hbig : (l0.length : Int) > 2147483647
  · exact ⟨0, by unfold laws_FnGrownEven.f; rw [if_pos hbig]⟩
  · obtain ⟨b, hb, hfit⟩ := fits_loop laws_fits.l0 (fun k x0 x1 x2 x3 x9 => by simp only [laws_fits.l0]) l0 40 0 300 (by omega) l0.length 0 (by omega)
    have key : Ev (fun k => laws_FnGrownEven.f k l0 a1 a2) true := by
      have hbody : ∀ b' : Bool, b' = b → Ev (fun k => if b' = true then (if (l0.length : Int) = 0 then (laws_FnGrownEven.j0 k l0 a1 a2 true) else (if a1 < 0 then (laws_FnGrownEven.j0 k l0 a1 a2 true) else (if a1 > 3000 then (laws_FnGrownEven.j0 k l0 a1 a2 true) else (if a2 < 0 then (laws_FnGrownEven.j0 k l0 a1 a2 true) else (laws_FnGrownEven.j0 k l0 a1 a2 (decide (a2 > 3000))))))) else (laws_FnGrownEven.j0 k l0 a1 a2 true)) true := by
        intro b' hb'
        by_cases hbt : b' = true
        · simp only [if_pos hbt]
          have hf := hfit (by rw [← hb']; exact hbt)
          by_cases c1 : (l0.length : Int) = 0
          · simp only [if_pos c1]; exact jt _ _ _
          · simp only [if_neg c1]
            by_cases c2 : a1 < 0
            · simp only [if_pos c2]; exact jt _ _ _
            · simp only [if_neg c2]
              by_cases c3 : a1 > 3000
              · simp only [if_pos c3]; exact jt _ _ _
              · simp only [if_neg c3]
                by_cases c4 : a2 < 0
                · simp only [if_pos c4]; exact jt _ _ _
                · simp only [if_neg c4]
                  by_cases c5 : a2 > 3000
                  · simp only [decide_eq_true c5]; exact jt _ _ _
                  · simp only [decide_eq_false c5]
                    exact jf l0 a1 a2 ((okg_iff _ _ _ _).2 ⟨fun x hx => hf.2 x (by simpa using hx), rfl, by omega, by omega, by omega, by omega, by omega, by omega⟩)
        · simp only [if_neg hbt]; exact jt _ _ _
      refine Ev.congr (fun k => ?_) (Ev.bind (g := fun k => laws_fits.f k l0 40 0 300) (f := fun k t => if t = true then (if (l0.length : Int) = 0 then (laws_FnGrownEven.j0 k l0 a1 a2 true) else (if a1 < 0 then (laws_FnGrownEven.j0 k l0 a1 a2 true) else (if a1 > 3000 then (laws_FnGrownEven.j0 k l0 a1 a2 true) else (if a2 < 0 then (laws_FnGrownEven.j0 k l0 a1 a2 true) else (laws_FnGrownEven.j0 k l0 a1 a2 (decide (a2 > 3000))))))) else (laws_FnGrownEven.j0 k l0 a1 a2 true)) (Ev.congr (fun k => rfl) hb) (hbody b rfl))
      unfold laws_FnGrownEven.f
      rw [if_neg hbig]
    exact Ev.rounds key
end Go.Proofs.Ytapbnbinoakbhaa.PureFnGrownEven
