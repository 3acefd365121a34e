/-
  Proved: what a list's rendering reads, and what hasMoreItemsInLevel returns. Conditions: at most 100000 items.
-/
import Derived.Test.YtemcjnminnnefaaDoorLstD
namespace Go.Proofs.YtemcjnminnnefaaDoor.LstE
open Go.RowKit Go.Proofs.YtemcjnminnnefaaDoorW.PrintWords Go.Proofs.YtemcjnminnnefaaDoor.Common Go.Proofs.YtemcjnminnnefaaDoor.LstT Go.Proofs.YtemcjnminnnefaaDoor.LstA Go.Proofs.YtemcjnminnnefaaDoor.LstB Go.Proofs.YtemcjnminnnefaaDoor.LstC
set_option linter.unusedVariables false
set_option linter.unusedSimpArgs false
set_option maxRecDepth 1000000

/-- a style's texts (its new line a line feed, its format the default one) -/
structure Sty where
  sg : ByteArray
  tp : ByteArray
  fi : ByteArray
  mi : ByteArray
  ve : ByteArray
  bo : ByteArray
  px : ByteArray
  nm : ByteArray
def styC (y : Sty) : Array Value := #[.int .i64 0, .string y.sg, .string y.tp, .string y.fi, .string y.mi, .string y.ve, .string y.bo, .string ⟨#[10]⟩, .string y.px, .string y.nm]
/-- what is read: the writer in block q, its style in block qs, its items -/
structure RD (q qs : Nat) (its : List (Nat × ByteArray)) (y : Sty) (vs : ByteArray) (W : World) : Prop where
  c1 : W.cell? ⟨q, 1, none⟩ = some (.string vs)
  c5 : W.cell? ⟨q, 5, none⟩ = some (.pointer (some ⟨qs, 0, none⟩))
  st : ∀ (i : Nat) (u : Value), (styC y)[i]? = some u → W.cell? ⟨qs, i, none⟩ = some u
  it : ∃ (A : Option Addr) (c : Nat), W.cell? ⟨q, 3, none⟩ = some (.slice A its.length c) ∧ ∀ (i : Nat) (x : Nat × ByteArray), its[i]? = some x → ∃ (ad : Addr) (g : Nat), A = some ad ∧ W.cell? (ad.add i) = some (.pointer (some ⟨g, 0, none⟩)) ∧ W.cell? ⟨g, 0, none⟩ = some (.int .i64 (x.1 : Int)) ∧ W.cell? ⟨g, 1, none⟩ = some (.string x.2)
theorem RD.below {q qs : Nat} {its : List (Nat × ByteArray)} {y : Sty} {vs : ByteArray} {W W1 : World} (h : RD q qs its y vs W) (hb : Below W.heap.size W W1) : RD q qs its y vs W1 := by
  obtain ⟨h1, h5, hs, A, c, h3, hi⟩ := h
  refine ⟨pw_cell_below hb h1, pw_cell_below hb h5, fun i u hu => pw_cell_below hb (hs i u hu), A, c, pw_cell_below hb h3, fun i x hx => ?_⟩
  obtain ⟨ad, g, e, k1, k2, k3⟩ := hi i x hx
  exact ⟨ad, g, e, pw_cell_below hb k1, pw_cell_below hb k2, pw_cell_below hb k3⟩
def moreF (its : List (Nat × ByteArray)) (lev idx : Nat) : Bool := match (its.drop (idx + 1)).find? (fun x => decide (x.1 ≤ lev)) with
  | some x => decide (x.1 = lev)
  | none => false
theorem more_step (its : List (Nat × ByteArray)) (lev k : Nat) (hk : k < its.length) : ((its.drop k).find? (fun x => decide (x.1 ≤ lev))) = if its[k].1 ≤ lev then some its[k] else (its.drop (k + 1)).find? (fun x => decide (x.1 ≤ lev)) := by
  rw [List.drop_eq_getElem_cons hk, List.find?_cons]
  by_cases h : its[k].1 ≤ lev
  · rw [if_pos h, decide_eq_true h]
  · rw [if_neg h, decide_eq_false h]
theorem more_c (q qs : Nat) (its : List (Nat × ByteArray)) (y : Sty) (vs : ByteArray) (lev idx : Nat) (hl : its.length ≤ 100000) (hi : idx ≤ 100000) (hlv : lev ≤ 100000) (w W : World) (h : RD q qs its y vs w) (hb : Below w.heap.size w W) :
    Calls Tryd.prog 23 #[.pointer (some ⟨q, 0, none⟩), .int .i64 (lev : Int), .int .i64 (idx : Int)] W fun e w' => e = .returned (.bool (moreF its lev idx)) ∧ w' = W := by
  obtain ⟨_, _, _, A, c, h3, hit⟩ := h.below hb
  clear h hb
  have HI := Aside0.mk hit
  clear hit
  have hw0 : wrap64 ((idx : Int) + 1) = ((idx + 1 : Nat) : Int) := by rw [w64 _ (by omega) (by omega)]; omega
  go_enter Tryd.func23, Tryd.ntmps23
  go_wp2
  go_loopw [7] (fun i wr => ∃ k : Nat, Value.int .i64 (k : Int) = i ∧ idx + 1 ≤ k ∧ (its.length ≤ k → k ≤ its.length ∨ k = idx + 1) ∧ Aside0 ((its.drop (idx + 1)).find? (fun x => decide (x.1 ≤ lev)) = (its.drop k).find? (fun x => decide (x.1 ≤ lev))) ∧ wr = W) (fun i _ => its.length + 1 - (intOf i).toNat)
  case atStart => exact ⟨idx + 1, by go_num, by omega, by omega, Aside0.mk rfl, rfl⟩
  case round =>
    obtain ⟨k, rfl, hk1, hk2, HF, rfl⟩ := hrel
    have hd0 : decide ((k : Int) ≥ 0) = true := decide_eq_true (by omega)
    by_cases hlt : k < its.length
    · have hd1 : decide ((k : Int) < (its.length : Int)) = true := decide_eq_true (by omega)
      obtain ⟨ad, g, rfl, e1, e2, e3⟩ := HI.out k its[k] (List.getElem?_eq_getElem hlt)
      have hs := more_step its lev k hlt
      generalize its[k] = x at *
      obtain ⟨m, x2⟩ := x
      dsimp only at *
      have hwk : wrap64 ((k : Int) + 1) = ((k + 1 : Nat) : Int) := by rw [w64 _ (by omega) (by omega)]; omega
      by_cases c1 : m < lev
      · rw [if_pos (by omega)] at hs
        have hd2 : decide ((m : Int) < (lev : Int)) = true := decide_eq_true (by omega)
        have hm : moreF its lev idx = false := by
          unfold moreF
          rw [HF.out, hs]
          exact decide_eq_false (by omega)
        go_wp2
        go_ret
        exact ⟨by rw [hm]; rfl, rfl⟩
      · have hd2 : decide ((m : Int) < (lev : Int)) = false := decide_eq_false (by omega)
        by_cases c2 : m = lev
        · rw [if_pos (by omega)] at hs
          have hd3 : decide ((m : Int) = (lev : Int)) = true := decide_eq_true (by omega)
          have hd4 : ((m : Int) == (lev : Int)) = true := by simp [c2]
          have hm : moreF its lev idx = true := by
            unfold moreF
            rw [HF.out, hs]
            exact decide_eq_true c2
          go_wp2
          go_ret
          exact ⟨by rw [hm]; rfl, rfl⟩
        · rw [if_neg (by omega)] at hs
          have hd3 : decide ((m : Int) = (lev : Int)) = false := decide_eq_false (by omega)
          have hd4 : ((m : Int) == (lev : Int)) = false := by simp; omega
          go_wp2
          go_roundw
          case rel => exact ⟨k + 1, by go_num, by omega, by omega, Aside0.mk (HF.out.trans hs), trivial⟩
          case measure => simp [intOf]; omega
    · have hd1 : decide ((k : Int) < (its.length : Int)) = false := decide_eq_false (by omega)
      have hm : moreF its lev idx = false := by
        unfold moreF
        rw [HF.out, List.drop_eq_nil_of_le (by omega)]
        rfl
      go_wp2
      go_ret
      exact ⟨by rw [hm]; rfl, rfl⟩
end Go.Proofs.YtemcjnminnnefaaDoor.LstE
