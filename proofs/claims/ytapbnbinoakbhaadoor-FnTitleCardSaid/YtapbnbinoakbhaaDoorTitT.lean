/-
  Proved: spec.TwTrim takes the blanks at both ends away. Conditions: at most 2^31 bytes.
-/
import Derived.Test.YtapbnbinoakbhaaDoorTitP
import Derived.Test.YtapbnbinoakbhaaDoorGETx
namespace Go.Proofs.YtapbnbinoakbhaaDoor.TitT
open Go.RowKit Go.Proofs.YtapbnbinoakbhaaDoorW.PrintWords Go.Proofs.YtapbnbinoakbhaaDoor.Common Go.Proofs.YtapbnbinoakbhaaDoor.TitP Go.Proofs.YtapbnbinoakbhaaDoor.GET
set_option linter.unusedVariables false

theorem ofL_size (l : List UInt8) : (ofL l).size = l.length := by rw [← size_l, ofL_data]
theorem eq32 (c : UInt8) : ((c.toNat : Int) = 32) ↔ c = 32 := ⟨fun e => UInt8.toNat_inj.1 (by show c.toNat = 32; omega), fun e => by rw [e]; rfl⟩
theorem bt_of (l : List UInt8) (i : Nat) (h : i < l.length) : bt (ofL l) (i : Int) = ((l[i]).toNat : Int) := by rw [bt_get (ofL l) i (by rw [ofL_size]; exact h)]; rfl
theorem back : ∀ r : List UInt8, r.length ≤ 4611686018427387904 → Ev (fun k => spec_TwTrim.l1 k (ofL r.reverse)) (ofL (fr r).reverse)
  | [], _ => by
    refine Ev.step (f := fun _ => some (ofL [])) (fun k => ?_) (Ev.now _)
    simp only [spec_TwTrim.l1]
    rw [if_neg (by rw [ofL_size]; simp)]
    rfl
  | c :: t, h => by
    have hl : (c :: t).reverse.length = t.length + 1 := by simp
    simp only [List.length_cons] at h
    have hsz : (((ofL (c :: t).reverse).size : Nat) : Int) = ((t.length + 1 : Nat) : Int) := by rw [ofL_size, hl]
    have hw : wrap64 (((t.length + 1 : Nat) : Int) - 1) = ((t.length : Nat) : Int) := by rw [w64 _ (by omega) (by omega)]; omega
    have hbt : bt (ofL (c :: t).reverse) ((t.length : Nat) : Int) = (c.toNat : Int) := by
      rw [bt_of _ _ (by rw [hl]; omega)]
      simp
    by_cases hc : c = 32
    · have ih := back t (by omega)
      have e : fr (c :: t) = fr t := by unfold fr; rw [List.dropWhile_cons, if_pos (by rw [hc]; rfl)]
      rw [e]
      refine Ev.step (f := fun k => spec_TwTrim.l1 k (ofL t.reverse)) (fun k => ?_) ih
      simp only [spec_TwTrim.l1]
      rw [hsz, hw, if_pos (by omega), if_pos (by omega), if_pos (by omega), hbt, if_pos ((eq32 c).2 hc), if_pos (by omega), extract_ofL, ofL_data]
      simp
    · have e : fr (c :: t) = c :: t := by unfold fr; rw [List.dropWhile_cons, if_neg (by simpa using hc)]
      rw [e]
      refine Ev.step (f := fun _ => some (ofL (c :: t).reverse)) (fun k => ?_) (Ev.now _)
      simp only [spec_TwTrim.l1]
      rw [hsz, hw, if_pos (by omega), if_pos (by omega), if_pos (by omega), hbt, if_neg (fun e => hc ((eq32 c).1 e))]
theorem trim_ev : ∀ l : List UInt8, l.length ≤ 4611686018427387904 → Ev (fun k => spec_TwTrim.l0 k (ofL l)) (ofL (trimS l))
  | [], _ => by
    refine Ev.step (f := fun k => spec_TwTrim.j1 k (ofL [])) (fun k => ?_) (Ev.step (f := fun k => spec_TwTrim.l1 k (ofL [])) (fun k => by simp only [spec_TwTrim.j1]) (back [] (by simp)))
    simp only [spec_TwTrim.l0]
    rw [if_neg (by rw [ofL_size]; simp)]
  | c :: t, h => by
    have hl : (c :: t).length = t.length + 1 := by simp
    rw [hl] at h
    have hsz : (((ofL (c :: t)).size : Nat) : Int) = ((t.length + 1 : Nat) : Int) := by rw [ofL_size, hl]
    have hbt : bt (ofL (c :: t)) 0 = (c.toNat : Int) := bt_of (c :: t) 0 (by rw [hl]; omega)
    by_cases hc : c = 32
    · have ih := trim_ev t (by omega)
      have e : trimS (c :: t) = trimS t := by unfold trimS; rw [show fr (c :: t) = fr t by unfold fr; rw [List.dropWhile_cons, if_pos (by rw [hc]; rfl)]]
      rw [e]
      refine Ev.step (f := fun k => spec_TwTrim.l0 k (ofL t)) (fun k => ?_) ih
      simp only [spec_TwTrim.l0]
      rw [hsz, if_pos (by omega), if_pos (by omega), hbt, if_pos ((eq32 c).2 hc), if_pos (by omega), extract_ofL, ofL_data, ofL_size]
      simp
    · have e : fr (c :: t) = c :: t := by unfold fr; rw [List.dropWhile_cons, if_neg (by simpa using hc)]
      have e2 : trimS (c :: t) = (fr (c :: t).reverse).reverse := by unfold trimS; rw [e]
      have b := back (c :: t).reverse (by rw [List.length_reverse, hl]; omega)
      rw [List.reverse_reverse, ← e2] at b
      refine Ev.step (f := fun k => spec_TwTrim.j1 k (ofL (c :: t))) (fun k => ?_) (Ev.step (f := fun k => spec_TwTrim.l1 k (ofL (c :: t))) (fun k => by simp only [spec_TwTrim.j1]) b)
      simp only [spec_TwTrim.l0]
      rw [hsz, if_pos (by omega), if_pos (by omega), hbt, if_neg (fun e => hc ((eq32 c).1 e))]
theorem trim_c (l : List UInt8) (hl : l.length ≤ 2147483647) (W : World) :
    Calls Tryd.prog 5 #[.string (ofL l)] W fun e w' => e = .returned (.string (ofL (trimS l))) ∧ Drawn0 W w' := by
  obtain ⟨k, hk⟩ := Ev.rounds (g := fun k => spec_TwTrim.f k (ofL l)) (trim_ev l (by omega))
  exact spec_TwTrim.calls k _ _ W hk
end Go.Proofs.YtapbnbinoakbhaaDoor.TitT
